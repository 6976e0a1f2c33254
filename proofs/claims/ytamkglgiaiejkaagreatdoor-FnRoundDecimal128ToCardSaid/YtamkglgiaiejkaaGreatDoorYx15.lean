import Derived.Test.YtamkglgiaiejkaaGreatDoorYx04
/-! A block of operations that only read, given by their numbers, where others may have come up before. -/
namespace Go.Proofs.YtamkglgiaiejkaaGreatDoor
open Go
section
variable {P : Program} {md : Region.Mode} {ops : Array Oper} {C : World → Prop} {Q : Exit → Act → World → Prop}

theorem tail_waitsI {n i t : Nat} {listed : Array Bool} (hw : ∀ t, n ≤ t → t < ops.size → reachB md ops 30 t i = true) (inv : Inv md ops n listed) (hun : listed.getD i true = false) (ht : n ≤ t) :
    t ∉ Region.ready md ops listed := by
  intro hr
  obtain ⟨_, ot, hot, hall⟩ := mem_ready.1 hr
  have htl : t < ops.size := (Array.getElem?_eq_some_iff.1 hot).1
  have h5 := reach_listed inv.closed 30 t i (hw t ht htl) (fun o ho e he hb => by
    obtain rfl : ot = o := Option.some.inj (hot.symm.trans ho)
    exact hall e he hb)
  rw [getD_both' hun] at h5
  cases h5

theorem blk_firstI {L : Array Bool → Act → Prop} {n i : Nat} {oi : Oper} {v : Value} (hi : ops[i]? = some oi) (hsel : Region.noSelect ops = true) (hw : ∀ t, n ≤ t → t < ops.size → reachB md ops 30 t i = true)
    (hLs : ∀ listed a, L listed a → ∀ j ∈ Region.ready md ops listed, n ≤ j) :
    ∀ (f : Nat) (listed : Array Bool) (a : Act), Inv md ops n listed →
      (∀ j oj, ops[j]? = some oj → j ≠ i → listed.getD j true = false → (∀ e ∈ oj.after, Region.binds md e = true → e.on ≠ i) → oi.apart ops oj = true) →
      i ∈ Region.ready md ops listed → YieldsIn P ops C oi v a →
      blk P md ops C L f (listed.setIfInBounds i true) (a.put oi.dst v) → blk P md ops C L (f + 1) listed a := by
  intro f
  induction f with
  | zero =>
    intro listed a inv _ hr hy H
    refine ⟨fun h => (by rw [h] at hr; cases hr), fun j hj => ?_⟩
    by_cases hji : j = i
    · subst hji; exact hy.qOp hi H
    · exact absurd hj (tail_waitsI hw inv (mem_ready.1 hr).1 (hLs _ _ H j (ready_mono hj hji)))
  | succ f ih =>
    intro listed a inv hfree hr hy H
    refine ⟨fun h => (by rw [h] at hr; cases hr), fun j hj => ?_⟩
    by_cases hji : j = i
    · subst hji; exact hy.qOp hi H
    · have hjn : j < n := by
        rcases Nat.lt_or_ge j n with h | h
        · exact h
        · exact absurd hj (tail_waitsI hw inv (mem_ready.1 hr).1 h)
      have h1 := H.2 j (ready_mono hj hji)
      obtain ⟨hjun, oj, hoj, hall⟩ := mem_ready.1 hj
      have hnot : ∀ e ∈ oj.after, Region.binds md e = true → e.on ≠ i := fun e he hb heq => by
        have h1 := hall e he hb
        rw [heq, getD_both' (mem_ready.1 hr).1] at h1
        cases h1
      have h2 := qOp_put hoj (hfree j oj hoj hji hjun hnot) (fun cs b => Region.noSelect_spec hsel i oi cs b hi) (fun cs b => Region.noSelect_spec hsel j oj cs b hoj) hy h1
      have hfree' : ∀ k ok, ops[k]? = some ok → k ≠ i → (listed.setIfInBounds j true).getD k true = false →
          (∀ e ∈ ok.after, Region.binds md e = true → e.on ≠ i) → oi.apart ops ok = true := fun k ok hk hki hun hno => by
        refine hfree k ok hk hki ?_ hno
        by_cases hjk : j = k
        · subst hjk; exact hjun
        · rw [getD_set_ne true hjk] at hun; exact hun
      refine qOp_mono (fun a' h3 => ih (listed.setIfInBounds j true) a' (inv.set hj hjn) hfree' (ready_mono hr (Ne.symm hji)) h3.1 ?_) h2
      rw [Array.setIfInBounds_comm _ _ hji]
      exact h3.2

def fillI : List Nat → Array Bool → Array Bool
  | [], l => l
  | i :: is, l => fillI is (l.setIfInBounds i true)
def lexRunI (md : Region.Mode) (ops : Array Oper) : List Nat → Array Bool → Bool
  | [], _ => true
  | i :: is, listed => (Region.ready md ops listed).contains i && Region.free md ops listed i && lexRunI md ops is (listed.setIfInBounds i true)
def waitsI (md : Region.Mode) (ops : Array Oper) (is : List Nat) (n : Nat) : Bool :=
  is.all fun i => decide (i < n) && (List.range ops.size).all fun t => decide (t < n) || reachB md ops 30 t i
def invB (md : Region.Mode) (ops : Array Oper) (n : Nat) (listed : Array Bool) : Bool :=
  decide (listed.size = ops.size) && ((List.range ops.size).all fun j => match ops[j]? with
    | some o => !listed.getD j false || o.after.all fun e => !Region.binds md e || listed.getD e.on false
    | none => true) && (List.range ops.size).all fun t => decide (t < n) || !listed.getD t true

theorem inv_of {n : Nat} {listed : Array Bool} (h : invB md ops n listed = true) : Inv md ops n listed := by
  simp only [invB, Bool.and_eq_true, decide_eq_true_eq] at h
  obtain ⟨⟨h1, h2⟩, h3⟩ := h
  refine ⟨h1, fun j oj hj hl e he hb => ?_, fun t ht ht' => ?_⟩
  · have hjl : j < ops.size := (Array.getElem?_eq_some_iff.1 hj).1
    have h4 := List.all_eq_true.1 h2 j (List.mem_range.2 hjl)
    simp only [hj, hl, Bool.not_true, Bool.false_or] at h4
    have h5 := Array.all_eq_true_iff_forall_mem.1 h4 e he
    simpa [hb] using h5
  · have h4 := List.all_eq_true.1 h3 t (List.mem_range.2 ht')
    simp only [Bool.or_eq_true, decide_eq_true_eq] at h4
    simpa using h4.resolve_left (by omega)

theorem blk_lexI {Lq : Act → Prop} {n : Nat} {F : Array Bool} (hsel : Region.noSelect ops = true) (hF : ∀ j ∈ Region.ready md ops F, n ≤ j) :
    ∀ (is : List Nat) (l : List Oper) (listed : Array Bool) (a : Act), is.map (ops[·]?) = l.map some → waitsI md ops is n = true → Inv md ops n listed → fillI is listed = F →
      lexRunI md ops is listed = true → wpQuiet P ops C Lq l a → blk P md ops C (fun listed' a' => listed' = F ∧ Lq a') is.length listed a
  | [], [], _, _, _, _, _, hf, _, h => ⟨hf, h⟩
  | [], _ :: _, _, _, hl, _, _, _, _, _ => by simp at hl
  | _ :: _, [], _, _, hl, _, _, _, _, _ => by simp at hl
  | i :: is, o :: l, listed, a, hl, hw, inv, hf, hB, h => by
    simp only [List.map_cons, List.cons.injEq] at hl
    simp only [waitsI, List.all_cons, Bool.and_eq_true, decide_eq_true_eq] at hw
    simp only [lexRunI, Bool.and_eq_true] at hB
    obtain ⟨⟨hr, hfr⟩, hB'⟩ := hB
    have hr' : i ∈ Region.ready md ops listed := by simpa using hr
    have hst : qOp P ops C i (wpQuiet P ops C Lq l) a := by unfold qOp; simp only [hl.1]; exact h
    obtain ⟨v, hy, hK⟩ := yieldsIn_of_qOp hl.1 hst
    have hwi : ∀ t, n ≤ t → t < ops.size → reachB md ops 30 t i = true := fun t ht htl => by
      have := List.all_eq_true.1 hw.1.2 t (List.mem_range.2 htl)
      simp only [Bool.or_eq_true, decide_eq_true_eq] at this
      exact this.resolve_left (by omega)
    exact blk_firstI (L := fun listed' a' => listed' = F ∧ Lq a') hl.1 hsel hwi (fun listed' a' hL j hj => hF j (by obtain ⟨rfl, _⟩ := hL; exact hj)) is.length listed a inv (Region.free_spec hl.1 hfr) hr' hy
      (blk_lexI hsel hF is l _ _ hl.2 hw.2 (inv.set hr' hw.1.1) hf hB' hK)

def quietB (md : Region.Mode) (ops : Array Oper) (is : List Nat) (n : Nat) (listed : Array Bool) : Bool :=
  Region.noSelect ops && waitsI md ops is n && invB md ops n listed && lexRunI md ops is listed && (Region.ready md ops (fillI is listed)).all fun j => decide (n ≤ j)

theorem wpAny_quiets {l : List Oper} (is : List Nat) (ls : List Oper) (n g : Nat) {f : Nat} {listed : Array Bool} {a : Act} {w : World} (hB : quietB md l.toArray is n listed = true) (hls : is.map (l.toArray[·]?) = ls.map some)
    (hf : f = is.length + g) (hC : C w) (h : wpQuiet P l.toArray C (fun a' => ∀ w', C w' → wpAny P md l.toArray Q g (fillI is listed) a' w') ls a) : wpAny P md l.toArray Q f listed a w := by
  simp only [quietB, Bool.and_eq_true] at hB
  obtain ⟨⟨⟨⟨h1, h2⟩, h3⟩, h4⟩, h5⟩ := hB
  have hb := blk_lexI (P := P) (C := C) (Lq := fun a' => ∀ w', C w' → wpAny P md l.toArray Q g (fillI is listed) a' w') h1 (fun j hj => by simpa using List.all_eq_true.1 h5 j hj) is ls listed a hls h2 (inv_of h3) rfl h4 h
  subst hf
  exact wpAny_of_blk (fun listed' a' w' hw' hL => by obtain ⟨rfl, h6⟩ := hL; exact h6 w' hw') _ _ _ _ hC hb
/-- Whichever of those that may come up. -/
theorem wpAny_each {l : List Oper} (is : List Nat) {listed : Array Bool} {g : Nat} {a : Act} {w : World} (hB : Region.ready md l.toArray listed = is) (hne : is ≠ [])
    (h : ∀ i ∈ is, ∃ o, l[i]? = some o ∧ wpList P l.toArray (Exit.then (wpAny P md l.toArray Q g (listed.setIfInBounds i true)) Q) [o] a w) : wpAny P md l.toArray Q (g + 1) listed a w := by
  refine ⟨fun h0 => (by rw [hB] at h0; exact absurd h0 hne), fun i hi => ?_⟩
  rw [hB] at hi
  obtain ⟨o, ho, h⟩ := h i hi
  have ho' : l.toArray[i]? = some o := by simpa using ho
  unfold wpOp
  simp only [ho']
  simp only [wpList] at h
  have key : ∀ K K' : Act → World → Prop, (∀ a w, K a w → K' a w) → o.wp P a w K (Exit.then (wpAny P md l.toArray Q g (listed.setIfInBounds i true)) Q) → o.wp P a w K' Q := by
    intro K K' hK h1
    unfold Oper.wp at *
    generalize (execOp a.eval o).run P w = r at *
    cases r with
    | ok x w' =>
      cases x <;> simp only [Oper.upon] at h1 ⊢ <;>
        first
          | exact hK _ _ h1
          | exact Calls.mono h1 (fun e w'' he => by cases e <;> first | exact hK _ _ he | exact he)
          | exact Rows.mono h1 (fun _ _ he => hK _ _ he)
    | halt x w' => cases x <;> simp only [Oper.upon] at h1 ⊢ <;> exact h1
  split
  · rename_i hw
    rw [if_pos hw] at h
    rcases h with h | ⟨h1, h2⟩
    · exact .inl (key _ _ (fun a' w' h' => h') h)
    · exact .inr ⟨h1, h2⟩
  · rename_i hw
    rw [if_neg hw] at h
    exact h
theorem wpAny_two {l : List Oper} {o1 o2 : Oper} (i1 i2 : Nat) {listed : Array Bool} {g : Nat} {a : Act} {w : World} (hB : Region.ready md l.toArray listed = [i1, i2]) (ho1 : l[i1]? = some o1) (ho2 : l[i2]? = some o2)
    (h1 : wpList P l.toArray (Exit.then (wpAny P md l.toArray Q g (listed.setIfInBounds i1 true)) Q) [o1] a w) (h2 : wpList P l.toArray (Exit.then (wpAny P md l.toArray Q g (listed.setIfInBounds i2 true)) Q) [o2] a w) :
    wpAny P md l.toArray Q (g + 1) listed a w :=
  wpAny_each [i1, i2] hB (by simp) fun i hi => by
    simp only [List.mem_cons, List.not_mem_nil, or_false] at hi
    rcases hi with rfl | rfl
    · exact ⟨_, ho1, h1⟩
    · exact ⟨_, ho2, h2⟩
theorem picks {l : List Oper} : ∀ (is : List Nat), (is.all fun i => decide (i < l.length)) = true → is.map (l.toArray[·]?) = (is.filterMap (l[·]?)).map some
  | [], _ => rfl
  | i :: is, h => by
    simp only [List.all_cons, Bool.and_eq_true, decide_eq_true_eq] at h
    have e : l[i]? = some (l[i]'h.1) := by simp [h.1]
    rw [List.map_cons, List.filterMap_cons, e, picks is h.2]
    simp [h.1]
theorem wpAny_lex {l : List Oper} (is : List Nat) (n g : Nat) {f : Nat} {listed : Array Bool} {a : Act} {w : World} (hB : (quietB md l.toArray is n listed && is.all fun i => decide (i < l.length)) = true)
    (hf : f = is.length + g) (hC : C w) (h : wpQuiet P l.toArray C (fun a' => ∀ w', C w' → wpAny P md l.toArray Q g (fillI is listed) a' w') (is.filterMap (l[·]?)) a) : wpAny P md l.toArray Q f listed a w := by
  simp only [Bool.and_eq_true] at hB
  exact wpAny_quiets is _ n g hB.1 (picks is hB.2) hf hC h
end
end Go.Proofs.YtamkglgiaiejkaaGreatDoor

/-! Regions that draw their order: a load whose cells stay as they are in all worlds on the way is taken at once, whatever comes before it. -/
namespace Go.Proofs.YtamkglgiaiejkaaGreatDoor
open Go
section
variable {P : Program} {md : Region.Mode} {ops : Array Oper} {Q : Exit → Act → World → Prop} {C : World → Prop}

/-- Whatever order is drawn, and C holds in every world on the way. -/
def wpC (P : Program) (md : Region.Mode) (ops : Array Oper) (Q : Exit → Act → World → Prop) (C : World → Prop) : Nat → Array Bool → Act → World → Prop
  | 0, listed, a, w => C w ∧ Region.ready md ops listed = [] ∧ Q .normal a w
  | fuel + 1, listed, a, w => C w ∧ (Region.ready md ops listed = [] → Q .normal a w) ∧
    ∀ i ∈ Region.ready md ops listed, wpOp P ops Q i (wpC P md ops Q C fuel (listed.setIfInBounds i true)) a w
theorem wpC_any : ∀ (fuel : Nat) (listed : Array Bool) (a : Act) (w : World), wpC P md ops Q C fuel listed a w → wpAny P md ops Q fuel listed a w
  | 0, _, _, _, h => h.2
  | fuel + 1, _, _, _, h => ⟨h.2.1, fun i hi => wpOp_mono (fun a w h' => wpC_any fuel _ a w h') (h.2.2 i hi)⟩
theorem wpC_here : ∀ (fuel : Nat) (listed : Array Bool) (a : Act) (w : World), wpC P md ops Q C fuel listed a w → C w
  | 0, _, _, _, h => h.1
  | _ + 1, _, _, _, h => h.1
/-- What yields the same wherever C holds. -/
def YieldsC (P : Program) (ops : Array Oper) (C : World → Prop) (o : Oper) (v : Value) (a : Act) : Prop :=
  (Region.wanted o (yielded ops a.tmps) = true ∧ ∀ w, C w → (execOp a.eval o).run P w = .ok (.value v) w) ∨
  (Region.wanted o (yielded ops a.tmps) = false ∧ v = undef)
theorem YieldsC.wpOp {i : Nat} {o : Oper} {v : Value} {a : Act} (hi : ops[i]? = some o) (hy : YieldsC P ops C o v a)
    {K : Act → World → Prop} {w : World} (hC : C w) (h : K (a.put o.dst v) w) : wpOp P ops Q i K a w := by
  unfold Go.wpOp
  simp only [hi]
  rcases hy with ⟨hw, hv⟩ | ⟨hw, rfl⟩
  · simp only [hw, if_true, Oper.wp, hv w hC, Oper.upon]; exact .inl h
  · simp only [hw, Bool.false_eq_true, if_false]; exact h
theorem YieldsC.of_same {o : Oper} {v : Value} {a a' : Act} (hy : YieldsC P ops C o v a) (he : execOp a'.eval o = execOp a.eval o)
    (hw : Region.wanted o (yielded ops a'.tmps) = Region.wanted o (yielded ops a.tmps)) : YieldsC P ops C o v a' := by
  unfold YieldsC at *
  rw [he, hw]
  exact hy
theorem wpOp_putC {j : Nat} {oi oj : Oper} {v : Value} (hj : ops[j]? = some oj) (hap : oi.apart ops oj = true)
    (hsi : ∀ cs b, oi.op ≠ .select cs b) (hsj : ∀ cs b, oj.op ≠ .select cs b)
    (hQ : ∀ c a w, Q (.panic c) (a.put oi.dst v) w → Q (.panic c) a w) {K : Act → World → Prop} {a : Act} {w : World}
    (hy : YieldsC P ops C oi v a) (h : wpOp P ops Q j K (a.put oi.dst v) w) :
    wpOp P ops Q j (fun a' w' => YieldsC P ops C oi v a' ∧ K (a'.put oi.dst v) w') a w := by
  obtain ⟨h1, h2, h3⟩ := Oper.apart_spec hap
  have keep : ∀ (a : Act), YieldsC P ops C oi v a → ∀ u, YieldsC P ops C oi v (a.put oj.dst u) := fun a hy u =>
    hy.of_same (execOp_put oi hsi a oj.dst u h3) (wanted_put oi a oj.dst u h3)
  have keepD : ∀ d, YieldsC P ops C oi v { a with defers := d :: a.defers } := fun d => hy.of_same rfl rfl
  unfold wpOp at *
  simp only [hj] at *
  rw [wanted_put oj a oi.dst v h1] at h
  split
  · rename_i hw
    simp only [hw, if_true] at h
    rcases h with h | ⟨hasks, hlets⟩
    case inr => exact .inr ⟨by unfold Oper.asks at *; rw [execOp_put oj hsj a oi.dst v h1] at hasks; exact hasks, hlets⟩
    refine .inl ?_
    unfold Oper.wp at *
    rw [execOp_put oj hsj a oi.dst v h1] at h
    generalize (execOp a.eval oj).run P w = r at *
    cases r with
    | ok n w' =>
      cases n <;> simp only [Oper.upon] at h ⊢
      case value u => exact ⟨keep a hy u, by rw [← Act.put_comm a v u h2]; exact h⟩
      case skip => exact ⟨keep a hy _, by rw [← Act.put_comm a v undef h2]; exact h⟩
      case defer d =>
        refine ⟨keep _ (keepD d) _, ?_⟩
        rw [← Act.put_comm _ v undef h2, ← Act.put_defers]
        exact h
      case enter f args =>
        refine Calls.mono h fun e w'' he => ?_
        cases e with
        | returned u => exact ⟨keep a hy u, by rw [← Act.put_comm a v u h2]; exact he⟩
        | panicked c => exact hQ _ _ _ he
        | outgrown => exact he
      case row row args => exact Rows.mono h fun u w'' he => ⟨keep a hy u, by rw [← Act.put_comm a v u h2]; exact he⟩
    | halt x w' =>
      cases x <;> simp only [Oper.upon] at h ⊢
      case panic u => exact hQ _ _ _ h
  · rename_i hw
    simp only [hw] at h
    exact ⟨keep a hy _, by rw [← Act.put_comm a v undef h2]; exact h⟩
theorem wpC_first {i : Nat} {oi : Oper} {v : Value} (hi : ops[i]? = some oi) (hsel : ∀ (j : Nat) (o : Oper) cs b, ops[j]? = some o → o.op ≠ .select cs b)
    (hQ : ∀ c a w, Q (.panic c) (a.put oi.dst v) w → Q (.panic c) a w) :
    ∀ (fuel : Nat) (listed : Array Bool) (a : Act) (w : World),
      (∀ j oj, ops[j]? = some oj → j ≠ i → listed.getD j true = false → (∀ e ∈ oj.after, Region.binds md e = true → e.on ≠ i) → oi.apart ops oj = true) →
      i ∈ Region.ready md ops listed → YieldsC P ops C oi v a →
      wpC P md ops Q C fuel (listed.setIfInBounds i true) (a.put oi.dst v) w → wpC P md ops Q C (fuel + 1) listed a w := by
  intro fuel
  induction fuel with
  | zero =>
    intro listed a w _ hr hy H
    refine ⟨H.1, fun h => (by rw [h] at hr; cases hr), fun j hj => ?_⟩
    by_cases hji : j = i
    · subst hji; exact hy.wpOp hi H.1 H
    · have := ready_mono hj hji
      rw [H.2.1] at this
      cases this
  | succ fuel ih =>
    intro listed a w hfree hr hy H
    refine ⟨H.1, fun h => (by rw [h] at hr; cases hr), fun j hj => ?_⟩
    by_cases hji : j = i
    · subst hji; exact hy.wpOp hi H.1 H
    · have h1 := H.2.2 j (ready_mono hj hji)
      obtain ⟨hjun, oj, hoj, hall⟩ := mem_ready.1 hj
      have hnot : ∀ e ∈ oj.after, Region.binds md e = true → e.on ≠ i := fun e he hb heq => by
        have h1 := hall e he hb
        have h0 := (mem_ready.1 hr).1
        rw [heq, getD_both' h0] at h1
        cases h1
      have h2 := wpOp_putC hoj (hfree j oj hoj hji hjun hnot) (fun cs b => hsel i oi cs b hi) (fun cs b => hsel j oj cs b hoj) hQ hy h1
      have hfree' : ∀ k ok, ops[k]? = some ok → k ≠ i → (listed.setIfInBounds j true).getD k true = false →
          (∀ e ∈ ok.after, Region.binds md e = true → e.on ≠ i) → oi.apart ops ok = true := fun k ok hk hki hun hno => by
        refine hfree k ok hk hki ?_ hno
        by_cases hjk : j = k
        · subst hjk; exact hjun
        · rw [getD_set_ne true hjk] at hun; exact hun
      refine wpOp_mono (fun a' w' h3 => ih (listed.setIfInBounds j true) a' w' hfree' (ready_mono hr (Ne.symm hji)) h3.1 ?_) h2
      rw [Array.setIfInBounds_comm _ _ hji]
      exact h3.2
theorem wpC_take {l : List Oper} {o : Oper} {v : Value} (i : Nat) {listed : Array Bool} {g : Nat} {a : Act} {w : World} (hB : takeB md l.toArray listed i = true) (ho : l[i]? = some o) (hg : o.guard = none)
    (hQ : ∀ c a w, Q (.panic c) (a.put o.dst v) w → Q (.panic c) a w) (hv : ∀ w', C w' → (execOp a.eval o).run P w' = .ok (.value v) w')
    (h : wpC P md l.toArray Q C g (listed.setIfInBounds i true) (a.put o.dst v) w) : wpC P md l.toArray Q C (g + 1) listed a w := by
  simp only [takeB, Bool.and_eq_true] at hB
  obtain ⟨⟨h1, h2⟩, h3⟩ := hB
  have ho' : l.toArray[i]? = some o := by simpa using ho
  exact wpC_first ho' (Region.noSelect_spec h1) hQ g listed a w (Region.free_spec ho' h2) (by simpa using h3) (.inl ⟨by unfold Region.wanted; rw [hg], hv⟩) h
theorem wpC_takeG {l : List Oper} {o : Oper} {v : Value} (i : Nat) {listed : Array Bool} {g : Nat} {a : Act} {w : World} (hB : takeB md l.toArray listed i = true) (ho : l[i]? = some o) (hg : Region.wanted o (yielded l.toArray a.tmps) = true)
    (hQ : ∀ c a w, Q (.panic c) (a.put o.dst v) w → Q (.panic c) a w) (hv : ∀ w', C w' → (execOp a.eval o).run P w' = .ok (.value v) w')
    (h : wpC P md l.toArray Q C g (listed.setIfInBounds i true) (a.put o.dst v) w) : wpC P md l.toArray Q C (g + 1) listed a w := by
  simp only [takeB, Bool.and_eq_true] at hB
  obtain ⟨⟨h1, h2⟩, h3⟩ := hB
  have ho' : l.toArray[i]? = some o := by simpa using ho
  exact wpC_first ho' (Region.noSelect_spec h1) hQ g listed a w (Region.free_spec ho' h2) (by simpa using h3) (.inl ⟨hg, hv⟩) h
/-- Whichever of those that may come up, C holding. -/
theorem wpC_each {l : List Oper} (is : List Nat) {listed : Array Bool} {g : Nat} {a : Act} {w : World} (hB : Region.ready md l.toArray listed = is) (hne : is ≠ []) (hC : C w)
    (h : ∀ i ∈ is, ∃ o, l[i]? = some o ∧ wpList P l.toArray (Exit.then (wpC P md l.toArray Q C g (listed.setIfInBounds i true)) Q) [o] a w) : wpC P md l.toArray Q C (g + 1) listed a w := by
  refine ⟨hC, fun h0 => (by rw [hB] at h0; exact absurd h0 hne), fun i hi => ?_⟩
  rw [hB] at hi
  obtain ⟨o, ho, h⟩ := h i hi
  have ho' : l.toArray[i]? = some o := by simpa using ho
  unfold wpOp
  simp only [ho']
  simp only [wpList] at h
  have key : ∀ K K' : Act → World → Prop, (∀ a w, K a w → K' a w) → o.wp P a w K (Exit.then (wpC P md l.toArray Q C g (listed.setIfInBounds i true)) Q) → o.wp P a w K' Q := by
    intro K K' hK h1
    unfold Oper.wp at *
    generalize (execOp a.eval o).run P w = r at *
    cases r with
    | ok x w' =>
      cases x <;> simp only [Oper.upon] at h1 ⊢ <;>
        first
          | exact hK _ _ h1
          | exact Calls.mono h1 (fun e w'' he => by cases e <;> first | exact hK _ _ he | exact he)
          | exact Rows.mono h1 (fun _ _ he => hK _ _ he)
    | halt x w' => cases x <;> simp only [Oper.upon] at h1 ⊢ <;> exact h1
  split
  · rename_i hw
    rw [if_pos hw] at h
    rcases h with h | ⟨h1, h2⟩
    · exact .inl (key _ _ (fun a' w' h' => h') h)
    · exact .inr ⟨h1, h2⟩
  · rename_i hw
    rw [if_neg hw] at h
    exact h
theorem wpC_two {l : List Oper} {o1 o2 : Oper} (i1 i2 : Nat) {listed : Array Bool} {g : Nat} {a : Act} {w : World} (hB : Region.ready md l.toArray listed = [i1, i2]) (hC : C w) (ho1 : l[i1]? = some o1) (ho2 : l[i2]? = some o2)
    (h1 : wpList P l.toArray (Exit.then (wpC P md l.toArray Q C g (listed.setIfInBounds i1 true)) Q) [o1] a w) (h2 : wpList P l.toArray (Exit.then (wpC P md l.toArray Q C g (listed.setIfInBounds i2 true)) Q) [o2] a w) :
    wpC P md l.toArray Q C (g + 1) listed a w :=
  wpC_each [i1, i2] hB (by simp) hC fun i hi => by
    simp only [List.mem_cons, List.not_mem_nil, or_false] at hi
    rcases hi with rfl | rfl
    · exact ⟨_, ho1, h1⟩
    · exact ⟨_, ho2, h2⟩
theorem wpC_three {l : List Oper} {o1 o2 o3 : Oper} (i1 i2 i3 : Nat) {listed : Array Bool} {g : Nat} {a : Act} {w : World} (hB : Region.ready md l.toArray listed = [i1, i2, i3]) (hC : C w) (ho1 : l[i1]? = some o1) (ho2 : l[i2]? = some o2) (ho3 : l[i3]? = some o3)
    (h1 : wpList P l.toArray (Exit.then (wpC P md l.toArray Q C g (listed.setIfInBounds i1 true)) Q) [o1] a w) (h2 : wpList P l.toArray (Exit.then (wpC P md l.toArray Q C g (listed.setIfInBounds i2 true)) Q) [o2] a w)
    (h3 : wpList P l.toArray (Exit.then (wpC P md l.toArray Q C g (listed.setIfInBounds i3 true)) Q) [o3] a w) :
    wpC P md l.toArray Q C (g + 1) listed a w :=
  wpC_each [i1, i2, i3] hB (by simp) hC fun i hi => by
    simp only [List.mem_cons, List.not_mem_nil, or_false] at hi
    rcases hi with rfl | rfl | rfl
    · exact ⟨_, ho1, h1⟩
    · exact ⟨_, ho2, h2⟩
    · exact ⟨_, ho3, h3⟩
theorem wpC_only {l : List Oper} {o : Oper} (i : Nat) {listed : Array Bool} {g : Nat} {a : Act} {w : World} (hB : Region.ready md l.toArray listed = [i]) (hC : C w) (ho : l[i]? = some o)
    (h : wpList P l.toArray (Exit.then (wpC P md l.toArray Q C g (listed.setIfInBounds i true)) Q) [o] a w) : wpC P md l.toArray Q C (g + 1) listed a w := by
  refine ⟨hC, fun h0 => (by rw [hB] at h0; cases h0), fun i' hi => ?_⟩
  rw [hB] at hi
  obtain rfl : i' = i := by simpa using hi
  have ho' : l.toArray[i']? = some o := by simpa using ho
  unfold wpOp
  simp only [ho']
  simp only [wpList] at h
  have key : ∀ K K' : Act → World → Prop, (∀ a w, K a w → K' a w) → o.wp P a w K (Exit.then (wpC P md l.toArray Q C g (listed.setIfInBounds i' true)) Q) → o.wp P a w K' Q := by
    intro K K' hK h1
    unfold Oper.wp at *
    generalize (execOp a.eval o).run P w = r at *
    cases r with
    | ok x w' =>
      cases x <;> simp only [Oper.upon] at h1 ⊢ <;>
        first
          | exact hK _ _ h1
          | exact Calls.mono h1 (fun e w'' he => by cases e <;> first | exact hK _ _ he | exact he)
          | exact Rows.mono h1 (fun _ _ he => hK _ _ he)
    | halt x w' => cases x <;> simp only [Oper.upon] at h1 ⊢ <;> exact h1
  split
  · rename_i hw
    rw [if_pos hw] at h
    rcases h with h | ⟨h1, h2⟩
    · exact .inl (key _ _ (fun a' w' h' => h') h)
    · exact .inr ⟨h1, h2⟩
  · rename_i hw
    rw [if_neg hw] at h
    exact h
theorem wpC_stop {l : List Oper} {listed : Array Bool} {f : Nat} {a : Act} {w : World} (hr : Region.ready md l.toArray listed = []) (hC : C w) (h : Q .normal a w) : wpC P md l.toArray Q C f listed a w := by
  cases f with
  | zero => exact ⟨hC, hr, h⟩
  | succ f => exact ⟨hC, fun _ => h, by rw [hr]; simp⟩
/-- Two blocks are made in whatever order, all alike: they lie one behind the other. -/
theorem wpC_allocs2 {l : List Oper} {o1 o2 : Oper} {d1 d2 : Tmp} {z : Obj} (i1 i2 : Nat) {listed : Array Bool} {g : Nat} {a : Act} {w : World}
    (hB : Region.ready md l.toArray listed = [i1, i2]) (hB1 : Region.ready md l.toArray (listed.setIfInBounds i1 true) = [i2]) (hB2 : Region.ready md l.toArray (listed.setIfInBounds i2 true) = [i1]) (hi : i1 ≠ i2)
    (ho1 : l[i1]? = some o1) (ho2 : l[i2]? = some o2) (hg1 : o1.guard = none) (hg2 : o2.guard = none) (hd1 : o1.dst = some d1) (hd2 : o2.dst = some d2) (hd : d1 ≠ d2)
    (hr1 : ∀ (ρ : Operand → Value) (w' : World), (execOp ρ o1).run P w' = .ok (.value (.pointer (some ⟨w'.heap.size, 0, none⟩))) (w'.alloc z)) (hr2 : ∀ (ρ : Operand → Value) (w' : World), (execOp ρ o2).run P w' = .ok (.value (.pointer (some ⟨w'.heap.size, 0, none⟩))) (w'.alloc z))
    (hC1 : C w) (hC2 : C (w.alloc z))
    (h : ∀ b1 b2 : Nat, (b1 = w.heap.size ∧ b2 = w.heap.size + 1) ∨ (b1 = w.heap.size + 1 ∧ b2 = w.heap.size) → wpC P md l.toArray Q C g ((listed.setIfInBounds i1 true).setIfInBounds i2 true) ((a.put (some d1) (.pointer (some ⟨b1, 0, none⟩))).put (some d2) (.pointer (some ⟨b2, 0, none⟩))) ((w.alloc z).alloc z)) :
    wpC P md l.toArray Q C (g + 2) listed a w := by
  have hs : (w.alloc z).heap.size = w.heap.size + 1 := by simp
  have key : ∀ (i : Nat) (o : Oper) (K : Act → World → Prop) (a : Act) (w : World), l[i]? = some o → o.guard = none → (∀ (ρ : Operand → Value) (w' : World), (execOp ρ o).run P w' = .ok (.value (.pointer (some ⟨w'.heap.size, 0, none⟩))) (w'.alloc z)) → K (a.put o.dst (.pointer (some ⟨w.heap.size, 0, none⟩))) (w.alloc z) → wpOp P l.toArray Q i K a w := by
    intro i o K a w ho hg hr hK
    have ho' : l.toArray[i]? = some o := by simpa using ho
    have hw : Region.wanted o (yielded l.toArray a.tmps) = true := by unfold Region.wanted; rw [hg]
    unfold wpOp
    simp only [ho', hw, if_true, Oper.wp, hr, Oper.upon]
    exact .inl hK
  refine ⟨hC1, fun h0 => (by rw [hB] at h0; cases h0), fun i hii => ?_⟩
  rw [hB] at hii
  simp only [List.mem_cons, List.not_mem_nil, or_false] at hii
  rcases hii with rfl | rfl
  · refine key _ o1 _ _ _ ho1 hg1 hr1 ?_
    refine ⟨hC2, fun h0 => (by rw [hB1] at h0; cases h0), fun j hj => ?_⟩
    rw [hB1] at hj
    obtain rfl : j = i2 := by simpa using hj
    refine key _ o2 _ _ _ ho2 hg2 hr2 ?_
    rw [hd1, hd2, hs]
    exact h _ _ (.inl ⟨rfl, rfl⟩)
  · refine key _ o2 _ _ _ ho2 hg2 hr2 ?_
    refine ⟨hC2, fun h0 => (by rw [hB2] at h0; cases h0), fun j hj => ?_⟩
    rw [hB2] at hj
    obtain rfl : j = i1 := by simpa using hj
    refine key _ o1 _ _ _ ho1 hg1 hr1 ?_
    rw [hd1, hd2, hs, Act.put_comm _ _ _ (fun d h1 h2 => hd (by cases h1; cases h2; rfl)), Array.setIfInBounds_comm _ _ (Ne.symm hi)]
    exact h _ _ (.inr ⟨rfl, rfl⟩)
theorem wp_region_takesC {id : Nat} {l : List Oper} {a : Act} {w : World} (C : World → Prop) (hm : P.follows .mixedOrders = true)
    (h : wpC P .any l.toArray Q C l.length (Array.replicate l.length false) a w.drew) : (Code.region id l.toArray true).wp P Q a w := by
  refine wp_region_any hm (wpC_any (C := C) _ _ _ _ ?_)
  simpa using h
/-- As wpC, but C is asked for only while operation t has not come up. -/
def wpD (P : Program) (md : Region.Mode) (ops : Array Oper) (Q : Exit → Act → World → Prop) (C : World → Prop) (t : Nat) : Nat → Array Bool → Act → World → Prop
  | 0, listed, a, w => (listed.getD t true = false → C w) ∧ Region.ready md ops listed = [] ∧ Q .normal a w
  | fuel + 1, listed, a, w => (listed.getD t true = false → C w) ∧ (Region.ready md ops listed = [] → Q .normal a w) ∧
    ∀ i ∈ Region.ready md ops listed, wpOp P ops Q i (wpD P md ops Q C t fuel (listed.setIfInBounds i true)) a w
theorem wpD_any {t : Nat} : ∀ (fuel : Nat) (listed : Array Bool) (a : Act) (w : World), wpD P md ops Q C t fuel listed a w → wpAny P md ops Q fuel listed a w
  | 0, _, _, _, h => h.2
  | fuel + 1, _, _, _, h => ⟨h.2.1, fun i hi => wpOp_mono (fun a w h' => wpD_any fuel _ a w h') (h.2.2 i hi)⟩
/-- Operation t waits for i. -/
def waitsOn (md : Region.Mode) (ops : Array Oper) (t i : Nat) : Bool := match ops[t]? with
  | some o => o.after.any fun e => Region.binds md e && e.on == i
  | none => false
theorem waitsOn_spec {t i : Nat} {listed : Array Bool} (h : waitsOn md ops t i = true) (hun : listed.getD i true = false) : t ∉ Region.ready md ops listed := by
  intro hr
  obtain ⟨_, o, ho, hall⟩ := mem_ready.1 hr
  unfold waitsOn at h
  simp only [ho] at h
  obtain ⟨e, he, hb⟩ := Array.any_eq_true'.1 h
  simp only [Bool.and_eq_true, beq_iff_eq] at hb
  have := hall e he hb.1
  rw [hb.2, getD_both' hun] at this
  cases this
theorem wpD_first {i t : Nat} {oi : Oper} {v : Value} (hi : ops[i]? = some oi) (hw : waitsOn md ops t i = true) (hti : i ≠ t) (hsel : ∀ (j : Nat) (o : Oper) cs b, ops[j]? = some o → o.op ≠ .select cs b)
    (hQ : ∀ c a w, Q (.panic c) (a.put oi.dst v) w → Q (.panic c) a w) :
    ∀ (fuel : Nat) (listed : Array Bool) (a : Act) (w : World), listed.getD t true = false →
      (∀ j oj, ops[j]? = some oj → j ≠ i → listed.getD j true = false → (∀ e ∈ oj.after, Region.binds md e = true → e.on ≠ i) → oi.apart ops oj = true) →
      i ∈ Region.ready md ops listed → YieldsC P ops C oi v a →
      wpD P md ops Q C t fuel (listed.setIfInBounds i true) (a.put oi.dst v) w → wpD P md ops Q C t (fuel + 1) listed a w := by
  intro fuel
  induction fuel with
  | zero =>
    intro listed a w ht _ hr hy H
    have hC : C w := H.1 (by rw [getD_set_ne true hti]; exact ht)
    refine ⟨fun _ => hC, fun h => (by rw [h] at hr; cases hr), fun j hj => ?_⟩
    by_cases hji : j = i
    · subst hji; exact hy.wpOp hi hC H
    · have := ready_mono hj hji
      rw [H.2.1] at this
      cases this
  | succ fuel ih =>
    intro listed a w ht hfree hr hy H
    have hC : C w := H.1 (by rw [getD_set_ne true hti]; exact ht)
    refine ⟨fun _ => hC, fun h => (by rw [h] at hr; cases hr), fun j hj => ?_⟩
    by_cases hji : j = i
    · subst hji; exact hy.wpOp hi hC H
    · have h1 := H.2.2 j (ready_mono hj hji)
      have hjt : j ≠ t := fun e => waitsOn_spec hw (mem_ready.1 hr).1 (e ▸ hj)
      obtain ⟨hjun, oj, hoj, hall⟩ := mem_ready.1 hj
      have hnot : ∀ e ∈ oj.after, Region.binds md e = true → e.on ≠ i := fun e he hb heq => by
        have h1 := hall e he hb
        have h0 := (mem_ready.1 hr).1
        rw [heq, getD_both' h0] at h1
        cases h1
      have h2 := wpOp_putC hoj (hfree j oj hoj hji hjun hnot) (fun cs b => hsel i oi cs b hi) (fun cs b => hsel j oj cs b hoj) hQ hy h1
      have hfree' : ∀ k ok, ops[k]? = some ok → k ≠ i → (listed.setIfInBounds j true).getD k true = false →
          (∀ e ∈ ok.after, Region.binds md e = true → e.on ≠ i) → oi.apart ops ok = true := fun k ok hk hki hun hno => by
        refine hfree k ok hk hki ?_ hno
        by_cases hjk : j = k
        · subst hjk; exact hjun
        · rw [getD_set_ne true hjk] at hun; exact hun
      refine wpOp_mono (fun a' w' h3 => ih (listed.setIfInBounds j true) a' w' (by rw [getD_set_ne true hjt]; exact ht) hfree' (ready_mono hr (Ne.symm hji)) h3.1 ?_) h2
      rw [Array.setIfInBounds_comm _ _ hji]
      exact h3.2
theorem wpD_take {l : List Oper} {o : Oper} {v : Value} (i : Nat) {t : Nat} {listed : Array Bool} {g : Nat} {a : Act} {w : World} (hB : (takeB md l.toArray listed i && waitsOn md l.toArray t i && !listed.getD t true && !(i == t)) = true) (ho : l[i]? = some o) (hg : o.guard = none)
    (hQ : ∀ c a w, Q (.panic c) (a.put o.dst v) w → Q (.panic c) a w) (hv : ∀ w', C w' → (execOp a.eval o).run P w' = .ok (.value v) w')
    (h : wpD P md l.toArray Q C t g (listed.setIfInBounds i true) (a.put o.dst v) w) : wpD P md l.toArray Q C t (g + 1) listed a w := by
  simp only [Bool.and_eq_true, takeB, Bool.not_eq_true'] at hB
  obtain ⟨⟨⟨⟨⟨h1, h2⟩, h3⟩, h4⟩, h5⟩, h6⟩ := hB
  have ho' : l.toArray[i]? = some o := by simpa using ho
  exact wpD_first ho' h4 (by simpa using h6) (Region.noSelect_spec h1) hQ g listed a w h5 (Region.free_spec ho' h2) (by simpa using h3) (.inl ⟨by unfold Region.wanted; rw [hg], hv⟩) h
theorem wpD_only {l : List Oper} {o : Oper} (i : Nat) {t : Nat} {listed : Array Bool} {g : Nat} {a : Act} {w : World} (hB : Region.ready md l.toArray listed = [i]) (hC : listed.getD t true = false → C w) (ho : l[i]? = some o)
    (h : wpList P l.toArray (Exit.then (wpD P md l.toArray Q C t g (listed.setIfInBounds i true)) Q) [o] a w) : wpD P md l.toArray Q C t (g + 1) listed a w := by
  refine ⟨hC, fun h0 => (by rw [hB] at h0; cases h0), fun i' hi => ?_⟩
  rw [hB] at hi
  obtain rfl : i' = i := by simpa using hi
  have ho' : l.toArray[i']? = some o := by simpa using ho
  unfold wpOp
  simp only [ho']
  simp only [wpList] at h
  have key : ∀ K K' : Act → World → Prop, (∀ a w, K a w → K' a w) → o.wp P a w K (Exit.then (wpD P md l.toArray Q C t g (listed.setIfInBounds i' true)) Q) → o.wp P a w K' Q := by
    intro K K' hK h1
    unfold Oper.wp at *
    generalize (execOp a.eval o).run P w = r at *
    cases r with
    | ok x w' =>
      cases x <;> simp only [Oper.upon] at h1 ⊢ <;>
        first
          | exact hK _ _ h1
          | exact Calls.mono h1 (fun e w'' he => by cases e <;> first | exact hK _ _ he | exact he)
          | exact Rows.mono h1 (fun _ _ he => hK _ _ he)
    | halt x w' => cases x <;> simp only [Oper.upon] at h1 ⊢ <;> exact h1
  split
  · rename_i hw
    rw [if_pos hw] at h
    rcases h with h | ⟨h1, h2⟩
    · exact .inl (key _ _ (fun a' w' h' => h') h)
    · exact .inr ⟨h1, h2⟩
  · rename_i hw
    rw [if_neg hw] at h
    exact h
theorem wpD_stop {l : List Oper} {t : Nat} {listed : Array Bool} {f : Nat} {a : Act} {w : World} (hr : Region.ready md l.toArray listed = []) (ht : listed.getD t true = true) (h : Q .normal a w) : wpD P md l.toArray Q C t f listed a w := by
  have ht' : listed.getD t true = false → C w := fun h' => by rw [ht] at h'; cases h'
  cases f with
  | zero => exact ⟨ht', hr, h⟩
  | succ f => exact ⟨ht', fun _ => h, by rw [hr]; simp⟩
theorem wp_region_takesD {id : Nat} {l : List Oper} {a : Act} {w : World} (C : World → Prop) (t : Nat) (hm : P.follows .mixedOrders = true)
    (h : wpD P .any l.toArray Q C t l.length (Array.replicate l.length false) a w.drew) : (Code.region id l.toArray true).wp P Q a w := by
  refine wp_region_any hm (wpD_any (C := C) (t := t) _ _ _ _ ?_)
  simpa using h
end
end Go.Proofs.YtamkglgiaiejkaaGreatDoor

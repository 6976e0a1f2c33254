import Derived.Deep.QuietTactic
import Derived.BigQuiet
/-! Regions that draw their order, walked in phases: blocks of operations that only read (in whatever order), and between them single operations that must come up alone. -/
namespace Go.Proofs.YtamkglgiaiejkaaGreatDoor
open Go

section
variable {P : Program} {md : Region.Mode} {ops : Array Oper} {C : World → Prop} {Q : Exit → Act → World → Prop}

/-- The first k of N operations have come up. -/
def pre (N k : Nat) : Array Bool := ((List.range N).map fun i => decide (i < k)).toArray
theorem pre_zero (N : Nat) : pre N 0 = Array.replicate N false := by
  apply Array.ext_getElem?
  intro i
  by_cases h : i < N <;> simp [pre, h]
def fill : Nat → Nat → Array Bool → Array Bool
  | 0, _, l => l
  | f + 1, k, l => fill f (k + 1) (l.setIfInBounds k true)

/-- Operation t waits for i, at once or through others. -/
def reachB (md : Region.Mode) (ops : Array Oper) : Nat → Nat → Nat → Bool
  | 0, _, _ => false
  | f + 1, t, i => match ops[t]? with
    | none => false
    | some o => o.after.any fun e => Region.binds md e && (e.on == i || reachB md ops f e.on i)
def Closed (md : Region.Mode) (ops : Array Oper) (listed : Array Bool) : Prop :=
  ∀ (j : Nat) (oj : Oper), ops[j]? = some oj → listed.getD j false = true → ∀ e ∈ oj.after, Region.binds md e = true → listed.getD e.on false = true

theorem reach_listed {listed : Array Bool} (hc : Closed md ops listed) : ∀ (f t i : Nat), reachB md ops f t i = true →
    (∀ o, ops[t]? = some o → ∀ e ∈ o.after, Region.binds md e = true → listed.getD e.on false = true) → listed.getD i false = true
  | 0, _, _, h, _ => by cases h
  | f + 1, t, i, h, hp => by
    unfold reachB at h
    split at h
    · cases h
    · rename_i o ho
      obtain ⟨e, he, h1⟩ := Array.any_eq_true'.1 h
      simp only [Bool.and_eq_true, Bool.or_eq_true, beq_iff_eq] at h1
      have hl := hp o ho e he h1.1
      rcases h1.2 with h2 | h2
      · rw [← h2]; exact hl
      · exact reach_listed hc f e.on i h2 (fun o' ho' e' he' hb' => hc e.on o' ho' hl e' he' hb')

structure Inv (md : Region.Mode) (ops : Array Oper) (n : Nat) (listed : Array Bool) : Prop where
  size : listed.size = ops.size
  closed : Closed md ops listed
  tail : ∀ t, n ≤ t → t < ops.size → listed.getD t true = false

theorem getD_both' {listed : Array Bool} {i : Nat} (h : listed.getD i true = false) : listed.getD i false = false := by
  rcases Nat.lt_or_ge i listed.size with h' | h'
  · simp [h'] at h ⊢; exact h
  · simp [Array.getElem?_eq_none h'] at h

theorem Inv.set {n i : Nat} {listed : Array Bool} (inv : Inv md ops n listed) (hi : i ∈ Region.ready md ops listed) (hin : i < n) : Inv md ops n (listed.setIfInBounds i true) := by
  obtain ⟨_, oi, hoi, hall⟩ := mem_ready.1 hi
  refine ⟨by simp [inv.size], fun j oj hj hl e he hb => ?_, fun t ht ht' => by rw [getD_set_ne true (by omega)]; exact inv.tail t ht ht'⟩
  by_cases hij : i = j
  · subst hij
    obtain rfl : oi = oj := Option.some.inj (hoi.symm.trans hj)
    exact getD_set_true (hall e he hb)
  · rw [getD_set_ne false hij] at hl
    exact getD_set_true (inv.closed j oj hj hl e he hb)

/-- Operations from n on wait for each of those from k up to n. -/
def waitsB (md : Region.Mode) (ops : Array Oper) (k n : Nat) : Bool :=
  (List.range ops.size).all fun t => decide (t < n) || (List.range n).all fun i => decide (i < k) || reachB md ops 30 t i

theorem tail_waits' {k n i t : Nat} {listed : Array Bool} (hw : waitsB md ops k n = true) (inv : Inv md ops n listed) (hki : k ≤ i) (hin : i < n) (hun : listed.getD i true = false) (ht : n ≤ t) :
    t ∉ Region.ready md ops listed := by
  intro hr
  obtain ⟨_, ot, hot, hall⟩ := mem_ready.1 hr
  have htl : t < ops.size := (Array.getElem?_eq_some_iff.1 hot).1
  have h1 := List.all_eq_true.1 hw t (List.mem_range.2 htl)
  simp only [Bool.or_eq_true, decide_eq_true_eq] at h1
  have h2 := h1.resolve_left (by omega)
  have h3 := List.all_eq_true.1 h2 i (List.mem_range.2 hin)
  simp only [Bool.or_eq_true, decide_eq_true_eq] at h3
  have h4 := h3.resolve_left (by omega)
  have h5 := reach_listed inv.closed 30 t i h4 (fun o ho e he hb => by
    obtain rfl : ot = o := Option.some.inj (hot.symm.trans ho)
    exact hall e he hb)
  rw [getD_both' hun] at h5
  cases h5

/-- f operations come up, in whatever order, each of which only reads; then L. -/
def blk (P : Program) (md : Region.Mode) (ops : Array Oper) (C : World → Prop) (L : Array Bool → Act → Prop) : Nat → Array Bool → Act → Prop
  | 0, listed, a => L listed a
  | f + 1, listed, a => Region.ready md ops listed ≠ [] ∧ ∀ i ∈ Region.ready md ops listed, qOp P ops C i (blk P md ops C L f (listed.setIfInBounds i true)) a

theorem wpAny_of_blk {L : Array Bool → Act → Prop} {g : Nat} (hL : ∀ listed a w, C w → L listed a → wpAny P md ops Q g listed a w) :
    ∀ (f : Nat) (listed : Array Bool) (a : Act) (w : World), C w → blk P md ops C L f listed a → wpAny P md ops Q (f + g) listed a w
  | 0, _, _, _, hw, h => by rw [Nat.zero_add]; exact hL _ _ _ hw h
  | f + 1, _, _, _, hw, h => by
    rw [show f + 1 + g = (f + g) + 1 by omega]
    exact ⟨fun h0 => absurd h0 h.1, fun i hi => wpOp_of_qOp hw (fun a' w' hw' h' => wpAny_of_blk hL f _ a' w' hw' h') (h.2 i hi)⟩

theorem blk_first {L : Array Bool → Act → Prop} {k n i : Nat} {oi : Oper} {v : Value} (hi : ops[i]? = some oi) (hsel : Region.noSelect ops = true) (hw : waitsB md ops k n = true)
    (hki : k ≤ i) (hin : i < n) (hLs : ∀ listed a, L listed a → ∀ j ∈ Region.ready md ops listed, n ≤ j) :
    ∀ (f : Nat) (listed : Array Bool) (a : Act), Inv md ops n listed →
      (∀ j oj, ops[j]? = some oj → j ≠ i → listed.getD j true = false → (∀ e ∈ oj.after, Region.binds md e = true → e.on ≠ i) → oi.apart ops oj = true) →
      i ∈ Region.ready md ops listed → YieldsIn P ops C oi v a →
      blk P md ops C L f (listed.setIfInBounds i true) (a.put oi.dst v) → blk P md ops C L (f + 1) listed a := by
  intro f
  induction f with
  | zero =>
    intro listed a inv _ hr hy H
    refine ⟨fun h => (by rw [h] at hr; cases hr), fun j hj => ?_⟩
    by_cases hji : j = i
    · subst hji; exact hy.qOp hi H
    · exact absurd hj (tail_waits' hw inv hki hin (mem_ready.1 hr).1 (hLs _ _ H j (ready_mono hj hji)))
  | succ f ih =>
    intro listed a inv hfree hr hy H
    refine ⟨fun h => (by rw [h] at hr; cases hr), fun j hj => ?_⟩
    by_cases hji : j = i
    · subst hji; exact hy.qOp hi H
    · have hjn : j < n := by
        rcases Nat.lt_or_ge j n with h | h
        · exact h
        · exact absurd hj (tail_waits' hw inv hki hin (mem_ready.1 hr).1 h)
      have h1 := H.2 j (ready_mono hj hji)
      obtain ⟨hjun, oj, hoj, hall⟩ := mem_ready.1 hj
      have hnot : ∀ e ∈ oj.after, Region.binds md e = true → e.on ≠ i := fun e he hb heq => by
        have h1 := hall e he hb
        rw [heq, getD_both' (mem_ready.1 hr).1] at h1
        cases h1
      have h2 := qOp_put hoj (hfree j oj hoj hji hjun hnot) (fun cs b => Region.noSelect_spec hsel i oi cs b hi) (fun cs b => Region.noSelect_spec hsel j oj cs b hoj) hy h1
      have hfree' : ∀ k ok, ops[k]? = some ok → k ≠ i → (listed.setIfInBounds j true).getD k true = false →
          (∀ e ∈ ok.after, Region.binds md e = true → e.on ≠ i) → oi.apart ops ok = true := fun k ok hk hki hun hno => by
        refine hfree k ok hk hki ?_ hno
        by_cases hjk : j = k
        · subst hjk; exact hjun
        · rw [getD_set_ne true hjk] at hun; exact hun
      refine qOp_mono (fun a' h3 => ih (listed.setIfInBounds j true) a' (inv.set hj hjn) hfree' (ready_mono hr (Ne.symm hji)) h3.1 ?_) h2
      rw [Array.setIfInBounds_comm _ _ hji]
      exact h3.2

def lexRunB (md : Region.Mode) (ops : Array Oper) : Nat → Nat → Array Bool → Bool
  | 0, _, _ => true
  | f + 1, k, listed => (Region.ready md ops listed).contains k && Region.free md ops listed k && lexRunB md ops f (k + 1) (listed.setIfInBounds k true)

theorem blk_lex {Lq : Act → Prop} {k0 n : Nat} {F : Array Bool} (hsel : Region.noSelect ops = true) (hw : waitsB md ops k0 n = true) (hF : ∀ j ∈ Region.ready md ops F, n ≤ j) :
    ∀ (l : List Oper) (k : Nat) (listed : Array Bool) (a : Act), k0 ≤ k → (∀ j, j < l.length → l[j]? = ops[k + j]?) → k + l.length = n → Inv md ops n listed → fill l.length k listed = F →
      lexRunB md ops l.length k listed = true → wpQuiet P ops C Lq l a → blk P md ops C (fun listed' a' => listed' = F ∧ Lq a') l.length listed a
  | [], _, _, _, _, _, _, _, hf, _, h => ⟨hf, h⟩
  | o :: l, k, listed, a, hk, hl, hn, inv, hf, hB, h => by
    have h0 : ops[k]? = some o := by simpa using (hl 0 (by simp)).symm
    simp only [List.length_cons, lexRunB, Bool.and_eq_true] at hB
    obtain ⟨⟨hr, hfr⟩, hB'⟩ := hB
    have hkn : k < n := by simp only [List.length_cons] at hn; omega
    have hr' : k ∈ Region.ready md ops listed := by simpa using hr
    have hst : qOp P ops C k (wpQuiet P ops C Lq l) a := by unfold qOp; simp only [h0]; exact h
    obtain ⟨v, hy, hK⟩ := yieldsIn_of_qOp h0 hst
    exact blk_first (L := fun listed' a' => listed' = F ∧ Lq a') h0 hsel hw hk hkn (fun listed' a' hL j hj => hF j (by obtain ⟨rfl, _⟩ := hL; exact hj)) l.length listed a inv (Region.free_spec h0 hfr) hr' hy
      (blk_lex hsel hw hF l (k + 1) _ _ (by omega) (fun j hj => by have := hl (j + 1) (by simp; omega); simpa [Nat.add_assoc, Nat.add_comm 1 j] using this)
        (by simp only [List.length_cons] at hn; omega) (inv.set hr' hkn) hf hB' hK)

/-- Each operation waits for earlier ones alone. -/
def lowB (md : Region.Mode) (ops : Array Oper) : Bool :=
  (List.range ops.size).all fun j => match ops[j]? with
    | some o => o.after.all fun e => !Region.binds md e || decide (e.on < j)
    | none => true

theorem pre_get (N k j : Nat) (d : Bool) (hj : j < N) : (pre N k).getD j d = decide (j < k) := by
  simp [pre, hj]
theorem pre_size (N k : Nat) : (pre N k).size = N := by simp [pre]

theorem pre_inv {k n : Nat} (hlow : lowB md ops = true) (hkn : k ≤ n) : Inv md ops n (pre ops.size k) := by
  refine ⟨pre_size _ _, fun j oj hj hl e he hb => ?_, fun t ht ht' => by rw [pre_get _ _ _ _ ht']; simp; omega⟩
  have hjl : j < ops.size := (Array.getElem?_eq_some_iff.1 hj).1
  rw [pre_get _ _ _ _ hjl, decide_eq_true_eq] at hl
  have h1 := List.all_eq_true.1 hlow j (List.mem_range.2 hjl)
  simp only [hj] at h1
  have h2 := Array.all_eq_true_iff_forall_mem.1 h1 e he
  simp only [hb, Bool.not_true, Bool.false_or, decide_eq_true_eq] at h2
  rw [pre_get _ _ _ _ (by omega), decide_eq_true_eq]
  omega

/-- All that is asked of the text of a block. -/
def blockB (md : Region.Mode) (ops : Array Oper) (k n : Nat) : Bool :=
  Region.noSelect ops && lowB md ops && decide (k ≤ n) && decide (n ≤ ops.size) && waitsB md ops k n && lexRunB md ops (n - k) k (pre ops.size k) && decide (fill (n - k) k (pre ops.size k) = pre ops.size n)

theorem wpAny_block {l : List Oper} (k n g : Nat) {f : Nat} {a : Act} {w : World} (hB : blockB md l.toArray k n = true) (hf : f = (n - k) + g) (hC : C w)
    (h : wpQuiet P l.toArray C (fun a' => ∀ w', C w' → wpAny P md l.toArray Q g (pre l.length n) a' w') ((l.drop k).take (n - k)) a) :
    wpAny P md l.toArray Q f (pre l.length k) a w := by
  simp only [blockB, Bool.and_eq_true, decide_eq_true_eq] at hB
  obtain ⟨⟨⟨⟨⟨⟨hsel, hlow⟩, hkn⟩, hns⟩, hw⟩, hlex⟩, hfill⟩ := hB
  have hsz : l.toArray.size = l.length := by simp
  rw [hsz] at hns
  have hlen : ((l.drop k).take (n - k)).length = n - k := by simp; omega
  have hfin : ∀ j ∈ Region.ready md l.toArray (pre l.toArray.size n), n ≤ j := by
    intro j hj
    obtain ⟨h1, o, ho, _⟩ := mem_ready.1 hj
    have hjl : j < l.toArray.size := (Array.getElem?_eq_some_iff.1 ho).1
    rw [pre_get _ _ _ _ hjl, decide_eq_false_iff_not] at h1
    omega
  have hb := blk_lex (C := C) (md := md) (Lq := fun a' => ∀ w', C w' → wpAny P md l.toArray Q g (pre l.length n) a' w') hsel hw hfin ((l.drop k).take (n - k)) k (pre l.toArray.size k) a (Nat.le_refl _)
    (fun j hj => by
      rw [hlen] at hj
      simp [hj, List.getElem?_drop])
    (by rw [hlen]; omega) (pre_inv hlow hkn) (by rw [hlen]; exact hfill) (by rw [hlen]; exact hlex) h
  rw [hlen, hsz] at hb
  subst hf
  refine wpAny_of_blk (fun listed a' w' hw' hL => ?_) _ _ _ _ hC hb
  obtain ⟨rfl, h2⟩ := hL
  exact h2 w' hw'

/-- The one operation that can come up now. -/
def aloneB (md : Region.Mode) (ops : Array Oper) (n : Nat) : Bool :=
  decide (Region.ready md ops (pre ops.size n) = [n]) && decide ((pre ops.size n).setIfInBounds n true = pre ops.size (n + 1))

theorem wpAny_alone {l : List Oper} {o : Oper} (n : Nat) {g : Nat} {a : Act} {w : World} (hB : aloneB md l.toArray n = true) (ho : l[n]? = some o)
    (h : wpList P l.toArray (Exit.then (wpAny P md l.toArray Q g (pre l.length (n + 1))) Q) [o] a w) :
    wpAny P md l.toArray Q (g + 1) (pre l.length n) a w := by
  simp only [aloneB, Bool.and_eq_true, decide_eq_true_eq] at hB
  have hsz : l.toArray.size = l.length := by simp
  rw [hsz] at hB
  refine ⟨fun h0 => (by rw [hB.1] at h0; cases h0), fun i hi => ?_⟩
  rw [hB.1] at hi
  obtain rfl : i = n := by simpa using hi
  rw [hB.2]
  have ho' : l.toArray[i]? = some o := by simpa using ho
  unfold wpOp
  simp only [ho']
  simp only [wpList] at h
  have key : ∀ K K' : Act → World → Prop, (∀ a w, K a w → K' a w) → o.wp P a w K (Exit.then (wpAny P md l.toArray Q g (pre l.length (i + 1))) Q) → o.wp P a w K' Q := by
    intro K K' hK h1
    unfold Oper.wp at *
    generalize (execOp a.eval o).run P w = r at *
    cases r with
    | ok x w' =>
      cases x <;> simp only [Oper.upon] at h1 ⊢ <;>
        first
          | exact hK _ _ h1
          | exact Calls.mono h1 (fun e w'' he => by cases e <;> first | exact hK _ _ he | exact he)
          | exact Rows.mono h1 (fun _ _ he => hK _ _ he)
    | halt x w' => cases x <;> simp only [Oper.upon] at h1 ⊢ <;> exact h1
  split
  · rename_i hw
    rw [if_pos hw] at h
    rcases h with h | ⟨h1, h2⟩
    · exact .inl (key _ _ (fun a' w' h' => h') h)
    · exact .inr ⟨h1, h2⟩
  · rename_i hw
    rw [if_neg hw] at h
    exact h

/-- A mere copy of a slot may come first, wherever it stands. -/
def moveB (md : Region.Mode) (ops : Array Oper) (n : Nat) : Bool :=
  Region.noSelect ops && Region.free md ops (pre ops.size n) n && (Region.ready md ops (pre ops.size n)).contains n && decide ((pre ops.size n).setIfInBounds n true = pre ops.size (n + 1))
theorem wpAny_move {l : List Oper} {d : Tmp} {x : Operand} {ty : TypeId} {pos : String} {aft : Array Edge} (n : Nat) {g : Nat} {a : Act} {w : World} (hB : moveB md l.toArray n = true)
    (ho : l[n]? = some ⟨some d, .move x, ty, pos, aft, none⟩) (hQ : ∀ v c a w, Q (.panic c) (a.put (some d) v) w → Q (.panic c) a w)
    (h : ∀ K : Act → World → Prop, (∀ a w, wpAny P md l.toArray Q g (pre l.length (n + 1)) a w → K a w) → Oper.wp P ⟨some d, .move x, ty, pos, aft, none⟩ a w K Q) :
    wpAny P md l.toArray Q (g + 1) (pre l.length n) a w := by
  simp only [moveB, Bool.and_eq_true, decide_eq_true_eq] at hB
  obtain ⟨⟨⟨h1, h2⟩, h3⟩, h4⟩ := hB
  have hsz : l.toArray.size = l.length := by simp
  rw [hsz] at h2 h3 h4
  have ho' : l.toArray[n]? = some ⟨some d, .move x, ty, pos, aft, none⟩ := by simpa using ho
  refine wpAny_take (v := a.eval x) ho' h1 h2 h3 (fun c a' w' h' => hQ _ c a' w' h') (.inl ⟨rfl, fun w' => BigFrame.run_move x rfl w'⟩) ?_
  rw [h4]
  have h5 := h _ (fun a w h => h)
  have h6 := BigFrame.run_move (P := P) (ρ := a.eval) (o := ⟨some d, .move x, ty, pos, aft, none⟩) x rfl w
  simp only [Oper.wp, h6, Oper.upon] at h5
  exact h5
theorem wpAny_end {l : List Oper} {n : Nat} {f : Nat} {a : Act} {w : World} (hn : l.length = n) (h : Q .normal a w) : wpAny P md l.toArray Q f (pre l.length n) a w := by
  refine wpAny_done ?_ h f
  apply List.filter_eq_nil_iff.2
  intro i hi
  have hi' : i < l.length := by simpa using hi
  rw [pre_get _ _ _ _ hi']
  simp; omega

theorem wp_region_phases {id : Nat} {l : List Oper} {a : Act} {w : World} (hm : P.follows .mixedOrders = true)
    (h : wpAny P .any l.toArray Q l.length (pre l.length 0) a w.drew) : (Code.region id l.toArray true).wp P Q a w := by
  refine wp_region_any hm ?_
  rw [pre_zero] at h
  simpa using h
end

/-- A block that only reads, then one operation that writes or makes memory or calls, then a block that only reads, to the region's end. -/
theorem wp_region_mid {P : Program} {Q : Exit → Act → World → Prop} {id : Nat} {l : List Oper} {o : Oper} {a : Act} {w : World} (n : Nat) (hm : P.follows .mixedOrders = true)
    (hB : (blockB .any l.toArray 0 n && aloneB .any l.toArray n && blockB .any l.toArray (n + 1) l.length) = true) (ho : l[n]? = some o)
    (h : wpQuiet P l.toArray (fun w' => ∃ m, w' = w.drewN m) (fun a' => ∀ w', (∃ m, w' = w.drewN m) →
      wpList P l.toArray (Exit.then (fun a2 w2 => wpQuiet P l.toArray (fun w3 => ∃ m, w3 = w2.drewN m) (fun a3 => ∀ w3, (∃ m, w3 = w2.drewN m) → Q .normal a3 w3) (l.drop (n + 1)) a2) Q) [o] a' w') (l.take n) a) :
    (Code.region id l.toArray true).wp P Q a w := by
  simp only [Bool.and_eq_true] at hB
  obtain ⟨⟨h1, h2⟩, h3⟩ := hB
  have hn : n < l.length := (List.getElem?_eq_some_iff.1 ho).1
  refine wp_region_phases hm (wpAny_block (C := fun w' => ∃ m, w' = w.drewN m) 0 n (l.length - (n + 1) + 1) h1 (by omega) ⟨1, rfl⟩ ?_)
  simp only [List.drop_zero, Nat.sub_zero]
  have mono : ∀ (ls : List Oper) (a : Act) (Q1 Q2 : Act → Prop), (∀ a, Q1 a → Q2 a) → wpQuiet P l.toArray (fun w' => ∃ m, w' = w.drewN m) Q1 ls a → wpQuiet P l.toArray (fun w' => ∃ m, w' = w.drewN m) Q2 ls a := by
    intro ls
    induction ls with
    | nil => intro a Q1 Q2 hq hh; exact hq _ hh
    | cons x ls ih =>
      intro a Q1 Q2 hq hh
      unfold wpQuiet at hh ⊢
      split
      · rename_i hw; rw [if_pos hw] at hh; exact Oper.quiet_mono (fun a' => ih a' Q1 Q2 hq) hh
      · rename_i hw; rw [if_neg hw] at hh; exact ih _ Q1 Q2 hq hh
  refine mono _ _ _ _ (fun a' h' w' hw' => wpAny_alone n h2 ho ?_) h
  have h4 := h' w' hw'
  have key : ∀ K K' : Act → World → Prop, (∀ a w, K a w → K' a w) → wpList P l.toArray (Exit.then K Q) [o] a' w' → wpList P l.toArray (Exit.then K' Q) [o] a' w' := by
    intro K K' hK hh
    unfold wpList at hh ⊢
    split
    · rename_i hw
      rw [if_pos hw] at hh
      refine hh.imp (fun h5 => ?_) (fun h5 => h5)
      unfold Oper.wp at *
      generalize (execOp a'.eval o).run P w' = r at *
      cases r with
      | ok x w' =>
        cases x <;> simp only [Oper.upon] at h5 ⊢ <;>
          first
            | exact hK _ _ h5
            | exact Calls.mono h5 (fun e w'' he => by cases e <;> first | exact hK _ _ he | exact he)
            | exact Rows.mono h5 (fun _ _ he => hK _ _ he)
      | halt x w' => cases x <;> simp only [Oper.upon] at h5 ⊢ <;> exact h5
    · rename_i hw
      rw [if_neg hw] at hh
      exact hK _ _ hh
  refine key _ _ (fun a2 w2 h5 => ?_) h4
  refine wpAny_block (C := fun w3 => ∃ m, w3 = w2.drewN m) (n + 1) l.length 0 h3 (by omega) ⟨0, rfl⟩ ?_
  have e : (l.drop (n + 1)).take (l.length - (n + 1)) = l.drop (n + 1) := by rw [List.take_of_length_le (by simp)]
  rw [e]
  have mono2 : ∀ (ls : List Oper) (a : Act) (Q1 Q2 : Act → Prop), (∀ a, Q1 a → Q2 a) → wpQuiet P l.toArray (fun w3 => ∃ m, w3 = w2.drewN m) Q1 ls a → wpQuiet P l.toArray (fun w3 => ∃ m, w3 = w2.drewN m) Q2 ls a := by
    intro ls
    induction ls with
    | nil => intro a Q1 Q2 hq hh; exact hq _ hh
    | cons x ls ih =>
      intro a Q1 Q2 hq hh
      unfold wpQuiet at hh ⊢
      split
      · rename_i hw; rw [if_pos hw] at hh; exact Oper.quiet_mono (fun a' => ih a' Q1 Q2 hq) hh
      · rename_i hw; rw [if_neg hw] at hh; exact ih _ Q1 Q2 hq hh
  exact mono2 _ _ _ _ (fun a3 h6 w3 hw3 => wpAny_end rfl (h6 w3 hw3)) h5
end Go.Proofs.YtamkglgiaiejkaaGreatDoor

/-! Operations that yield the same in every world, taken ahead of their place; operations that come up alone. -/
namespace Go.Proofs.YtamkglgiaiejkaaGreatDoor
open Go
section
variable {P : Program} {md : Region.Mode} {Q : Exit → Act → World → Prop}
def takeB (md : Region.Mode) (ops : Array Oper) (listed : Array Bool) (i : Nat) : Bool :=
  Region.noSelect ops && Region.free md ops listed i && (Region.ready md ops listed).contains i

theorem wpAny_pure {l : List Oper} {o : Oper} {v : Value} (i : Nat) {listed : Array Bool} {g : Nat} {a : Act} {w : World} (hB : takeB md l.toArray listed i = true) (ho : l[i]? = some o) (hg : o.guard = none)
    (hQ : ∀ c a w, Q (.panic c) (a.put o.dst v) w → Q (.panic c) a w) (hv : ∀ w', (execOp a.eval o).run P w' = .ok (.value v) w')
    (h : wpAny P md l.toArray Q g (listed.setIfInBounds i true) (a.put o.dst v) w) : wpAny P md l.toArray Q (g + 1) listed a w := by
  simp only [takeB, Bool.and_eq_true] at hB
  obtain ⟨⟨h1, h2⟩, h3⟩ := hB
  exact wpAny_take (by simpa using ho) h1 h2 h3 hQ (.inl ⟨by unfold Region.wanted; rw [hg], hv⟩) h

theorem wpAny_only {l : List Oper} {o : Oper} (i : Nat) {listed : Array Bool} {g : Nat} {a : Act} {w : World} (hB : Region.ready md l.toArray listed = [i]) (ho : l[i]? = some o)
    (h : wpList P l.toArray (Exit.then (wpAny P md l.toArray Q g (listed.setIfInBounds i true)) Q) [o] a w) : wpAny P md l.toArray Q (g + 1) listed a w := by
  refine ⟨fun h0 => (by rw [hB] at h0; cases h0), fun i' hi => ?_⟩
  rw [hB] at hi
  obtain rfl : i' = i := by simpa using hi
  have ho' : l.toArray[i']? = some o := by simpa using ho
  unfold wpOp
  simp only [ho']
  simp only [wpList] at h
  have key : ∀ K K' : Act → World → Prop, (∀ a w, K a w → K' a w) → o.wp P a w K (Exit.then (wpAny P md l.toArray Q g (listed.setIfInBounds i' true)) Q) → o.wp P a w K' Q := by
    intro K K' hK h1
    unfold Oper.wp at *
    generalize (execOp a.eval o).run P w = r at *
    cases r with
    | ok x w' =>
      cases x <;> simp only [Oper.upon] at h1 ⊢ <;>
        first
          | exact hK _ _ h1
          | exact Calls.mono h1 (fun e w'' he => by cases e <;> first | exact hK _ _ he | exact he)
          | exact Rows.mono h1 (fun _ _ he => hK _ _ he)
    | halt x w' => cases x <;> simp only [Oper.upon] at h1 ⊢ <;> exact h1
  split
  · rename_i hw
    rw [if_pos hw] at h
    rcases h with h | ⟨h1, h2⟩
    · exact .inl (key _ _ (fun a' w' h' => h') h)
    · exact .inr ⟨h1, h2⟩
  · rename_i hw
    rw [if_neg hw] at h
    exact h
theorem wpAny_stop {l : List Oper} {listed : Array Bool} {f : Nat} {a : Act} {w : World} (hr : Region.ready md l.toArray listed = []) (h : Q .normal a w) : wpAny P md l.toArray Q f listed a w := wpAny_done hr h f
theorem wp_region_takes {id : Nat} {l : List Oper} {a : Act} {w : World} (hm : P.follows .mixedOrders = true)
    (h : wpAny P .any l.toArray Q l.length (Array.replicate l.length false) a w.drew) : (Code.region id l.toArray true).wp P Q a w := by
  refine wp_region_any hm ?_
  simpa using h
end
end Go.Proofs.YtamkglgiaiejkaaGreatDoor

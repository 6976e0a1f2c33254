import Derived.Test.YtdamippibpbjhaaGreatDoorYa39
import Derived.Test.YtdamippibpbjhaaGreatDoorYa30
import Derived.Test.YtdamippibpbjhaaGreatDoorYa31
/-! A batch of values by a dictionary. -/
namespace Go.Proofs.YtdamippibpbjhaaGreatDoor.I32
open Go.RowKit

@[go_sem] theorem nil_ahead_Single173 (a : Addr) (w : World) : (nilAhead 502 192 (.pointer (some a)) "IsValidSingle").run Tryz.prog w = .ok (some false) w := by kernel_rfl
@[go_sem] theorem method_Single173 (a : Addr) (w : World) : (method 502 192 (.pointer (some a)) "IsValidSingle").run Tryz.prog w = .ok (269, .pointer (some a)) w := by kernel_rfl
@[go_sem] theorem nil_ahead_IsValid173 (a : Addr) (w : World) : (nilAhead 502 192 (.pointer (some a)) "IsValid").run Tryz.prog w = .ok (some false) w := by kernel_rfl
@[go_sem] theorem method_IsValid173 (a : Addr) (w : World) : (method 502 192 (.pointer (some a)) "IsValid").run Tryz.prog w = .ok (268, .pointer (some a)) w := by kernel_rfl
@[go_sem] theorem nil_ahead_Fill173 (a : Addr) (w : World) : (nilAhead 502 192 (.pointer (some a)) "Fill").run Tryz.prog w = .ok (some false) w := by kernel_rfl
@[go_sem] theorem method_Fill173 (a : Addr) (w : World) : (method 502 192 (.pointer (some a)) "Fill").run Tryz.prog w = .ok (266, .pointer (some a)) w := by kernel_rfl
@[go_sem] theorem nil_ahead_Copy173 (a : Addr) (w : World) : (nilAhead 502 192 (.pointer (some a)) "Copy").run Tryz.prog w = .ok (some false) w := by kernel_rfl
@[go_sem] theorem method_Copy173 (a : Addr) (w : World) : (method 502 192 (.pointer (some a)) "Copy").run Tryz.prog w = .ok (265, .pointer (some a)) w := by kernel_rfl
@[go_sem] theorem alen263 : Tryz.prog.arrayLen 263 = 1024 := by kernel_rfl

theorem RP.keep {E : Env} {S : Nat → Prop} {w w' : World} {rd : Nat} {T : TypeId} {W cur rep lit : Nat} {rest : List Nat} (h : RP E w rd T W cur rep lit rest) (hk : Keep S w w') (h1 : ¬ S E.b) (h2 : ¬ S E.rb) (h3 : ¬ S E.g) (h4 : ¬ S 2) (h5 : ¬ S rd) : RP E w' rd T W cur rep lit rest := by
  obtain ⟨off, bo, p, rs, hb, hr⟩ := h.pos
  exact ⟨hk.blk h.cells h5, h.src.keep hk h2 h3 h4, h.one, h.rep9, h.lit9, h.cur9, off, bo, p, rs, hb.keep hk h1, hr⟩
theorem CSt.keep {VD : World → Nat → Prop} {vals : Nat → Value} {pd N dcb base k : Nat} {F : Nat → Prop} (V : VDec VD pd N vals F) {S : Nat → Prop} {w w' : World} {dv : Value} (h : CSt VD vals pd N dcb base w k dv) (hk : Keep S w w') (h1 : ¬ S dcb) (h2 : ∀ b, dv.ownBlock = some b → ¬ S b) (h3 : ∀ b, F b → ¬ S b) : CSt VD vals pd N dcb base w' k dv :=
  ⟨hk.blk h.cells h1, ownsRow_keep h.own hk h2, V.keep _ _ _ _ h.vd hk h3, h.kN⟩

theorem zero263 : Tryz.zeroCells263.size = 1024 := by kernel_rfl
/-- Blocks apart from each other. -/
structure GApart (E : Env) (F : Nat → Prop) (rd dcb pd ob : Nat) : Prop where
  rn : RN E rd
  f : ∀ b, F b → b ≠ E.b ∧ b ≠ E.rb ∧ b ≠ rd ∧ b ≠ ob ∧ b ≠ dcb
  p : pd ≠ E.g ∧ pd ≠ 2
  d : dcb ≠ E.b ∧ dcb ≠ E.rb ∧ dcb ≠ E.g ∧ dcb ≠ 2 ∧ dcb ≠ rd ∧ dcb ≠ ob
  o : ob ≠ E.b ∧ ob ≠ E.rb ∧ ob ≠ E.g ∧ ob ≠ 2 ∧ ob ≠ rd
/-- The dictionary's own block is none of these. -/
def DvFar (E : Env) (rd dcb ob : Nat) (F : Nat → Prop) (dv : Value) : Prop := ∀ b, dv.ownBlock = some b → b ≠ E.b ∧ b ≠ E.rb ∧ b ≠ E.g ∧ b ≠ 2 ∧ b ≠ rd ∧ b ≠ ob ∧ b ≠ dcb ∧ ¬ F b
/-- All that was there lies below. -/
structure Low (E : Env) (rd dcb ob : Nat) (F : Nat → Prop) (n : Nat) : Prop where
  all : E.b < n ∧ E.rb < n ∧ E.g < n ∧ 2 < n ∧ rd < n ∧ ob < n ∧ dcb < n
  f : ∀ b, F b → b < n
theorem Low.mono {E : Env} {rd dcb ob : Nat} {F : Nat → Prop} {n m : Nat} (h : Low E rd dcb ob F n) (hm : n ≤ m) : Low E rd dcb ob F m := ⟨by have := h.all; omega, fun b hb => Nat.lt_of_lt_of_le (h.f b hb) hm⟩
theorem DvFar.next {E : Env} {rd dcb ob : Nat} {F : Nat → Prop} {w : World} {dv dv' : Value} (h : DvFar E rd dcb ob F dv) (hg : Grew w dv dv') (hl : Low E rd dcb ob F w.heap.size) : DvFar E rd dcb ob F dv' := fun b hb => by
  rcases hg with e | ⟨b', e, hlb⟩
  · exact h b (by rw [← e]; exact hb)
  · rw [e] at hb
    cases hb
    have := hl.all
    exact ⟨by omega, by omega, by omega, by omega, by omega, by omega, by omega, fun hf => by have := hl.f _ hf; omega⟩
/-- q values are written: what is in the blocks but the reader's. -/
structure GV {VD : World → Nat → Prop} (vals : Nat → Value) (E : Env) (F : Nat → Prop) (pd N dcb base rd ob oo : Nat) (w0 : World) (dv0 : Value) (cs : Array Value) (t : TypeId) (rest : List Nat) (q : Nat) (wr : World) (kk : Nat) (dv : Value) (cs' : Array Value) : Prop where
  kp : Keep (fun b => b = E.b ∨ b = E.rb ∨ b = rd ∨ b = dcb ∨ b = pd ∨ b = ob ∨ dv0.ownBlock = some b) w0 wr
  st : CSt VD vals pd N dcb base wr kk dv
  ok : COK F dcb base wr dv
  far : DvFar E rd dcb ob F dv
  gr : Grew w0 dv0 dv
  blk : wr.heap[ob]? = some (.cells cs' t (0, 0))
  sz : cs'.size = cs.size
  out : ∀ j, j < oo ∨ oo + q ≤ j → cs'[j]? = cs[j]?
  ins : ∀ j, j < q → cs'[oo + j]? = some (vals (rest.getD j 0))
/-- And k values are read. -/
structure GR {VD : World → Nat → Prop} (vals : Nat → Value) (E : Env) (F : Nat → Prop) (pd N dcb base rd ob oo : Nat) (T : TypeId) (W : Nat) (w0 : World) (dv0 : Value) (cs : Array Value) (t : TypeId) (rest : List Nat) (k q : Nat) (wr : World) (cur rep lit kk : Nat) (dv : Value) (cs' : Array Value) : Prop
    extends GV (VD := VD) vals E F pd N dcb base rd ob oo w0 dv0 cs t rest q wr kk dv cs' where
  rp : RP E wr rd T W cur rep lit (rest.drop k)
/-- The block of the indices. -/
structure IB (w0 wr : World) (dv : Value) (ib : Nat) (cib : Array Value) : Prop where
  le : w0.heap.size ≤ ib
  blk : wr.heap[ib]? = some (.cells cib 263 (0, 0))
  far : dv.ownBlock ≠ some ib
/-- In a packed run: where the bits are. -/
structure LP (E : Env) (w : World) (rd : Nat) (T : TypeId) (W cur lit off bo : Nat) : Prop where
  cells : w.heap[rd]? = some (.cells (RC E W cur 0 lit) T (0, 0))
  src : Src E w
  bl : BL E w off bo
section
variable {VD : World → Nat → Prop} {vals : Nat → Value} {E : Env} {F : Nat → Prop} {pd N dcb base rd ob oo : Nat} {T : TypeId} {W : Nat} {w0 : World} {dv0 : Value} {cs : Array Value} {t : TypeId} {rest : List Nat} {k q : Nat} {wr w' : World} {cur rep lit kk : Nat} {dv : Value} {cs' : Array Value}
/-- What a call on the converter leaves alone. -/
theorem GV.key (V : VDec VD pd N vals F) (hA : GApart E F rd dcb pd ob) (h : GV (VD := VD) vals E F pd N dcb base rd ob oo w0 dv0 cs t rest q wr kk dv cs') {o : Option Nat} (ho : o = none ∨ o = some ob) : ∀ x, (x = E.b ∨ x = E.rb ∨ x = E.g ∨ x = 2 ∨ x = rd) → ¬ (x = dcb ∨ x = pd ∨ dv.ownBlock = some x ∨ o = some x) := by
  have hd := hA.d
  have hoo := hA.o
  have hpd := hA.f pd V.pF
  have hpp := hA.p
  intro x hx hh
  rcases hh with e | e | e | e
  · rcases hx with h | h | h | h | h
    · exact hd.1 (e.symm.trans h)
    · exact hd.2.1 (e.symm.trans h)
    · exact hd.2.2.1 (e.symm.trans h)
    · exact hd.2.2.2.1 (e.symm.trans h)
    · exact hd.2.2.2.2.1 (e.symm.trans h)
  · rcases hx with h | h | h | h | h
    · exact hpd.1 (e.symm.trans h)
    · exact hpd.2.1 (e.symm.trans h)
    · exact hpp.1 (e.symm.trans h)
    · exact hpp.2 (e.symm.trans h)
    · exact hpd.2.2.1 (e.symm.trans h)
  · have f := h.far x e
    rcases hx with h | h | h | h | h
    · exact f.1 h
    · exact f.2.1 h
    · exact f.2.2.1 h
    · exact f.2.2.2.1 h
    · exact f.2.2.2.2.1 h
  · have e' : ob = x := by
      rcases ho with ho | ho
      · rw [ho] at e; cases e
      · rw [ho] at e; exact Option.some.inj e
    rcases hx with h | h | h | h | h
    · exact hoo.1 (e'.trans h)
    · exact hoo.2.1 (e'.trans h)
    · exact hoo.2.2.1 (e'.trans h)
    · exact hoo.2.2.2.1 (e'.trans h)
    · exact hoo.2.2.2.2 (e'.trans h)
theorem RP.keepC (h : RP E wr rd T W cur rep lit rest) {S : Nat → Prop} (hk : Keep S wr w') (key : ∀ x, (x = E.b ∨ x = E.rb ∨ x = E.g ∨ x = 2 ∨ x = rd) → ¬ S x) : RP E w' rd T W cur rep lit rest :=
  h.keep hk (key _ (.inl rfl)) (key _ (.inr (.inl rfl))) (key _ (.inr (.inr (.inl rfl)))) (key _ (.inr (.inr (.inr (.inl rfl))))) (key _ (.inr (.inr (.inr (.inr rfl)))))
theorem LP.keepC {off bo : Nat} (h : LP E wr rd T W cur lit off bo) {S : Nat → Prop} (hk : Keep S wr w') (key : ∀ x, (x = E.b ∨ x = E.rb ∨ x = E.g ∨ x = 2 ∨ x = rd) → ¬ S x) : LP E w' rd T W cur lit off bo :=
  ⟨hk.blk h.cells (key _ (.inr (.inr (.inr (.inr rfl))))), h.src.keep hk (key _ (.inr (.inl rfl))) (key _ (.inr (.inr (.inl rfl)))) (key _ (.inr (.inr (.inr (.inl rfl))))), h.bl.keep hk (key _ (.inl rfl))⟩
/-- The reader goes on; indices may be written. -/
theorem GV.read (V : VDec VD pd N vals F) (hA : GApart E F rd dcb pd ob) (hL : Low E rd dcb ob F w0.heap.size) (h : GV (VD := VD) vals E F pd N dcb base rd ob oo w0 dv0 cs t rest q wr kk dv cs') {ib : Nat} {cib : Array Value} (hI : IB w0 wr dv ib cib) (hk : Keep (fun b => b = E.b ∨ b = E.rb ∨ b = rd ∨ b = ib) wr w') :
    GV (VD := VD) vals E F pd N dcb base rd ob oo w0 dv0 cs t rest q w' kk dv cs' := by
  have hd := hA.d
  have ho := hA.o
  have hl := hL.all
  have hle := hI.le
  refine ⟨h.kp.step hk (fun b hb => ?_), h.st.keep V hk (by rintro (e | e | e | e) <;> omega) (fun b hb => ?_) (fun b hb => ?_), h.ok.next (.inl rfl) hk.size, h.far, h.gr, hk.blk h.blk (by rintro (e | e | e | e) <;> omega), h.sz, h.out, h.ins⟩
  · rcases hb with e | e | e | e
    · exact .inl (.inl e)
    · exact .inl (.inr (.inl e))
    · exact .inl (.inr (.inr (.inl e)))
    · exact .inr (by omega)
  · have := h.far b hb
    rintro (e | e | e | e)
    · omega
    · omega
    · omega
    · exact hI.far (e ▸ hb)
  · have := hA.f b hb
    have := hL.f b hb
    rintro (e | e | e | e) <;> omega
/-- A call on the converter. -/
theorem GV.conv (V : VDec VD pd N vals F) (hL : Low E rd dcb ob F w0.heap.size) (h : GV (VD := VD) vals E F pd N dcb base rd ob oo w0 dv0 cs t rest q wr kk dv cs') {o : Option Nat} {P : Nat → Prop} (hP : CPost VD vals pd N dcb base wr dv o P w') (ho : o = none ∨ o = some ob)
    {ib : Nat} {cib : Array Value} (hI : IB w0 wr dv ib cib) {q' : Nat} {cs2 : Array Value}
    (hblk : w'.heap[ob]? = some (.cells cs2 t (0, 0))) (hsz : cs2.size = cs.size) (hout : ∀ j, j < oo ∨ oo + q' ≤ j → cs2[j]? = cs[j]?) (hins : ∀ j, j < q' → cs2[oo + j]? = some (vals (rest.getD j 0))) :
    ∃ kk2 dv2, P kk2 ∧ GV (VD := VD) vals E F pd N dcb base rd ob oo w0 dv0 cs t rest q' w' kk2 dv2 cs2 ∧ IB w0 w' dv2 ib cib := by
  obtain ⟨hk, dv2, kk2, hp, hst, hg⟩ := hP
  have hl := hL.all
  have hlp := hL.f pd V.pF
  have hle := hI.le
  refine ⟨kk2, dv2, hp, ⟨h.kp.step hk (fun i hi => ?_), hst, h.ok.next hg hk.size, h.far.next hg (hL.mono h.kp.size), ?_, hblk, hsz, hout, hins⟩, ⟨hle, hk.blk hI.blk (by
    rintro (e | e | e | e)
    · omega
    · omega
    · exact hI.far e
    · rcases ho with ho | ho
      · rw [ho] at e; cases e
      · rw [ho] at e; cases e; omega), fun e => ?_⟩⟩
  · rcases hi with e | e | e | e
    · exact .inl (.inr (.inr (.inr (.inl e))))
    · exact .inl (.inr (.inr (.inr (.inr (.inl e)))))
    · rcases h.gr with e' | ⟨b, e', hl⟩
      · exact .inl (.inr (.inr (.inr (.inr (.inr (.inr (by rw [← e']; exact e)))))))
      · rw [e'] at e
        cases e
        exact .inr hl
    · rcases ho with ho | ho
      · rw [ho] at e; cases e
      · rw [ho] at e; cases e
        exact .inl (.inr (.inr (.inr (.inr (.inr (.inl rfl))))))
  · rcases hg with e | ⟨b, e, hl⟩
    · rcases h.gr with e' | ⟨b', e', hl'⟩
      · exact .inl (e.trans e')
      · exact .inr ⟨b', e.trans e', hl'⟩
    · exact .inr ⟨b, e, Nat.le_trans h.kp.size hl⟩
  · rcases hg with e' | ⟨b, e', hb⟩
    · exact hI.far (e'.symm.trans e)
    · have := blk_lt hI.blk
      rw [e'] at e
      cases e
      omega
/-- A call on the converter that writes nothing out. -/
theorem GV.conv0 (V : VDec VD pd N vals F) (hA : GApart E F rd dcb pd ob) (hL : Low E rd dcb ob F w0.heap.size) (h : GV (VD := VD) vals E F pd N dcb base rd ob oo w0 dv0 cs t rest q wr kk dv cs') {P : Nat → Prop} (hP : CPost VD vals pd N dcb base wr dv none P w')
    {ib : Nat} {cib : Array Value} (hI : IB w0 wr dv ib cib) :
    ∃ kk2 dv2, P kk2 ∧ GV (VD := VD) vals E F pd N dcb base rd ob oo w0 dv0 cs t rest q w' kk2 dv2 cs' ∧ IB w0 w' dv2 ib cib := by
  have hpo := (hA.f pd V.pF).2.2.2.1
  exact h.conv V hL hP (.inl rfl) hI (hP.1.blk h.blk (by
    rintro (e | e | e | e)
    · exact hA.d.2.2.2.2.2 e.symm
    · exact hpo e.symm
    · exact (h.far _ e).2.2.2.2.2.1 rfl
    · cases e)) h.sz h.out h.ins
/-- A call on the converter that writes values out. -/
theorem GV.conv1 (V : VDec VD pd N vals F) (hL : Low E rd dcb ob F w0.heap.size) (h : GV (VD := VD) vals E F pd N dcb base rd ob oo w0 dv0 cs t rest q wr kk dv cs') {P : Nat → Prop} (hP : CPost VD vals pd N dcb base wr dv (some ob) P w')
    {ib : Nat} {cib : Array Value} (hI : IB w0 wr dv ib cib) {cs2 : Array Value} {m : Nat}
    (hblk : w'.heap[ob]? = some (.cells cs2 t (0, 0))) (hsz : cs2.size = cs'.size) (hout : ∀ j, j < oo + q ∨ oo + q + m ≤ j → cs2[j]? = cs'[j]?) (hins : ∀ j, j < m → cs2[oo + q + j]? = some (vals (rest.getD (q + j) 0))) :
    ∃ kk2 dv2, P kk2 ∧ GV (VD := VD) vals E F pd N dcb base rd ob oo w0 dv0 cs t rest (q + m) w' kk2 dv2 cs2 ∧ IB w0 w' dv2 ib cib :=
  h.conv V hL hP (.inr rfl) hI (q' := q + m) hblk (hsz.trans h.sz) (fun j hj => by rw [hout j (by omega)]; exact h.out j (by omega)) (fun j hj => by
    by_cases hjq : j < q
    · rw [hout (oo + j) (by omega)]; exact h.ins j hjq
    · have := hins (j - q) (by omega)
      rw [show oo + q + (j - q) = oo + j by omega, show q + (j - q) = j by omega] at this
      exact this)
end
theorem RP.cur_mem {E : Env} {w : World} {rd : Nat} {T : TypeId} {W cur rep lit : Nat} {rest : List Nat} (h : RP E w rd T W cur rep lit rest) (h0 : 0 < rep) : cur ∈ rest := by
  obtain ⟨off, bo, p, rs, _, _, _, _, _, _, hr⟩ := h.pos
  rw [hr]
  exact List.mem_append_left _ (List.mem_replicate.2 ⟨by omega, rfl⟩)
theorem RP.reps_take {E : Env} {w : World} {rd : Nat} {T : TypeId} {W cur rep : Nat} {rest : List Nat} (h : RP E w rd T W cur rep 0 rest) (m : Nat) (hm : m ≤ rep) : rest.take m = List.replicate m cur := by
  obtain ⟨off, bo, p, rs, _, _, _, _, _, _, hrest⟩ := h.pos
  have e : List.replicate rep cur = List.replicate m cur ++ List.replicate (rep - m) cur := by rw [List.replicate_append_replicate]; congr 1; omega
  rw [hrest, e, List.append_assoc, List.take_left' (by simp)]
theorem RP.lits_take {E : Env} {w : World} {rd : Nat} {T : TypeId} {W cur lit q : Nat} {rs : List Rle} {rest : List Nat} (_h : RP E w rd T W cur 0 lit rest) (hrest : rest = List.replicate 0 cur ++ (litVals E.D W q lit ++ runVals rs)) (m : Nat) (hm : m ≤ lit) : rest.take m = litVals E.D W q m := by
  have e := litVals_add E.D W q m (lit - m)
  rw [show m + (lit - m) = lit by omega] at e
  rw [hrest, List.replicate_zero, List.nil_append, e, List.append_assoc, List.take_left' (litVals_length _ _ _ _)]
theorem getD_of_take {rest : List Nat} {k m c : Nat} (h : (rest.drop k).take m = List.replicate m c) (j : Nat) (hj : j < m) : rest.getD (k + j) 0 = c := by
  have h1 := congrArg (fun z => z[j]?) h
  simp only [List.getElem?_take, if_pos hj, List.getElem?_drop, List.getElem?_replicate] at h1
  rw [List.getD_eq_getElem?_getD, h1]; rfl
theorem getD_of_take_lit {rest : List Nat} {k m : Nat} {D : List Int} {W q : Nat} (h : (rest.drop k).take m = litVals D W q m) (j : Nat) (hj : j < m) : rest.getD (k + j) 0 = bitsAt D (q + j * W) W := by
  have h1 := congrArg (fun z => z[j]?) h
  simp only [List.getElem?_take, if_pos hj, List.getElem?_drop, litVals, List.getElem?_map, List.getElem?_range hj, Option.map_some] at h1
  rw [List.getD_eq_getElem?_getD, h1]; rfl

theorem GV.drewN {VD : World → Nat → Prop} {vals : Nat → Value} {E : Env} {F : Nat → Prop} {pd N dcb base rd ob oo : Nat} {w0 : World} {dv0 : Value} {cs : Array Value} {t : TypeId} {rest : List Nat} {q : Nat} {wr : World} {kk : Nat} {dv : Value} {cs' : Array Value} (V : VDec VD pd N vals F)
    (h : GV (VD := VD) vals E F pd N dcb base rd ob oo w0 dv0 cs t rest q wr kk dv cs') (nq : Nat) : GV (VD := VD) vals E F pd N dcb base rd ob oo w0 dv0 cs t rest q (wr.drewN nq) kk dv cs' :=
  ⟨h.kp.drewN nq, h.st.keep V ((Keep.refl (fun _ => False) wr).drewN nq) (fun h => h) (fun _ _ h => h) (fun _ _ h => h), h.ok.next (.inl rfl) ((Keep.refl (fun _ => False) wr).drewN nq).size, h.far, h.gr, blk_drewN h.blk nq, h.sz, h.out, h.ins⟩
theorem RP.drewN {E : Env} {wr : World} {rd : Nat} {T : TypeId} {W cur rep lit : Nat} {rest : List Nat} (h : RP E wr rd T W cur rep lit rest) (nq : Nat) : RP E (wr.drewN nq) rd T W cur rep lit rest :=
  h.keep ((Keep.refl (fun _ => False) wr).drewN nq) (fun h => h) (fun h => h) (fun h => h) (fun h => h) (fun h => h)
theorem LP.drewN {E : Env} {wr : World} {rd : Nat} {T : TypeId} {W cur lit off bo : Nat} (h : LP E wr rd T W cur lit off bo) (nq : Nat) : LP E (wr.drewN nq) rd T W cur lit off bo :=
  h.keepC ((Keep.refl (fun _ => False) wr).drewN nq) (fun _ _ h => h)
theorem IB.drewN {w0 wr : World} {dv : Value} {ib : Nat} {cib : Array Value} (h : IB w0 wr dv ib cib) (nq : Nat) : IB w0 (wr.drewN nq) dv ib cib := ⟨h.le, blk_drewN h.blk nq, h.far⟩

set_option maxRecDepth 100000 in
set_option maxHeartbeats 8000000 in
theorem dict_any {VD : World → Nat → Prop} {vals : Nat → Value} {pd N : Nat} {F : Nat → Prop} (V : VDec VD pd N vals F) (hform : ∀ j, ∃ a, vals j = .int .i32 a) (E : Env) (hW : E.Wf) (rd dcb base ob oo n co W : Nat) (T : TypeId) (hW1 : 1 ≤ W) (hW20 : W ≤ 20) (hN : N ≤ 1000) (dv : Value) (cs : Array Value) (t : TypeId) (rest : List Nat) (w : World)
    (cur rep lit kk : Nat) (hA : GApart E F rd dcb pd ob) (hL : Low E rd dcb ob F w.heap.size) (h : GR (VD := VD) vals E F pd N dcb base rd ob oo T W w dv cs t rest 0 0 w cur rep lit kk dv cs) (hn : n ≤ rest.length) (hn9 : n ≤ 100000) (hnc : n ≤ co) (hoo : oo + n ≤ cs.size) (hrest : ∀ x ∈ rest, x < N) :
    Calls Tryz.prog 124 #[.pointer (some ⟨rd, 0, none⟩), .iface 192 (.pointer (some ⟨dcb, 0, none⟩)), .slice (some ⟨ob, oo, none⟩) n co] w fun e w' => e = .returned (.tuple #[.int .i64 n, .nilIface]) ∧
      ∃ cur rep lit kk dv' cs', GR (VD := VD) vals E F pd N dcb base rd ob oo T W w dv cs t rest n n w' cur rep lit kk dv' cs' := by
  have HG0 := Lib.hid h
  have hnewA := blk_new w (.cells Tryz.zeroCells263 263)
  have hkA : Keep (fun _ => False) w (w.alloc (.cells Tryz.zeroCells263 263)) := (Keep.refl _ w).alloc _
  obtain ⟨ib, hib⟩ : ∃ ib, ib = w.heap.size := ⟨_, rfl⟩
  rw [← hib] at hnewA
  have HIB := Lib.hid hib
  clear h
  go_enter Tryz.func124, Tryz.ntmps124
  go_upto_region 4 with fail
  rw [← hib]
  clear hib
  generalize w.alloc (.cells Tryz.zeroCells263 263) = w1 at *
  go_loopw [2, 8, 11, 12, 13, 14, 15, 16, 17, 18, 19, 34, 90] (fun vs i _ _ _ _ _ _ _ _ _ _ _ wr => ∃ k : Nat, k ≤ n ∧ i = .int .i64 k ∧ (∃ a, vs = .slice a (n - k) (co - k) ∧ (k < n → a = some ⟨ob, oo + k, none⟩)) ∧
    ∃ cur rep lit kk dv' cs' cib, GR (VD := VD) vals E F pd N dcb base rd ob oo T W w dv cs t rest k k wr cur rep lit kk dv' cs' ∧ IB w wr dv' ib cib ∧ cib.size = 1024) (fun _ i _ _ _ _ _ _ _ _ _ _ _ wr => 2 * (n - (intOf i).toNat) + pend wr rd)
  case atStart =>
    have h0 := HG0.out
    have hI : IB w w1 dv ib Tryz.zeroCells263 := ⟨Nat.le_of_eq HIB.out.symm, hnewA, fun e => by
      have := (ownsRow_lt h0.st.own _ e).1
      have := HIB.out
      omega⟩
    exact ⟨0, Nat.zero_le _, rfl, ⟨_, rfl, fun _ => rfl⟩, cur, rep, lit, kk, dv, cs, Tryz.zeroCells263, ⟨⟨h0.kp.step hkA (fun _ h => h.elim), h0.st.keep V hkA (fun h => h) (fun _ _ h => h) (fun _ _ h => h), h0.ok.next (.inl rfl) hkA.size, h0.far, h0.gr, hkA.blk h0.blk (fun h => h), h0.sz, h0.out, h0.ins⟩, h0.rp.keep hkA (fun h => h) (fun h => h) (fun h => h) (fun h => h) (fun h => h)⟩, hI, zero263⟩
  case round =>
    obtain ⟨k, hkn, rfl, ⟨a, rfl, ha⟩, cur, rep, lit, kk, dv', cs', cib, h, hI, hcsz⟩ := hrel
    clear hkA hnewA
    have hpd := pend_of h.rp.cells
    by_cases hk : k < n
    · obtain rfl := ha hk
      have hcells := h.rp.cells
      unfold RC at hcells
      have hc := blk_cell hcells
      have hf := blk_frozen hcells
      have hlen : 0 < (rest.drop k).length := by simp; omega
      have hki : (k : Int) < (n : Int) := by omega
      by_cases hrep : 0 < rep
      · obtain rfl : lit = 0 := by have := h.rp.one; omega
        have hcurN : cur < N := hrest _ (List.mem_of_mem_drop (h.rp.cur_mem hrep))
        have hrep9 := h.rp.rep9
        have hcur9 := h.rp.cur9
        have hreps : (0 : Int) < (rep : Int) := by omega
        obtain ⟨m, hm⟩ : ∃ m, m = min (n - k) rep := ⟨_, rfl⟩
        have hmin : (if (rep : Int) < (n : Int) - (k : Int) then (rep : Int) else (n : Int) - (k : Int)) = (m : Int) := by split <;> omega
        have HM := Lib.hid hm
        have HS := Lib.hid (single_any V dcb base kk cur dv' wr hN h.st hcurN h.ok)
        have HH := Lib.hid (And.intro h hI)
        clear h hI hm
        go_wp2_with fail
        refine HS.out.mono ?_
        rintro e w2 ⟨rfl, hp⟩
        obtain ⟨kk2, dv2, hkk2, h2, hI2⟩ := HH.out.1.conv0 V hA hL hp HH.out.2
        have hrp2 := HH.out.1.rp.keepC hp.1 (HH.out.1.key V hA (.inl rfl))
        have hcells2 := hrp2.cells
        unfold RC at hcells2
        have hc2 := blk_cell hcells2
        have hf2 := blk_frozen hcells2
        have HH2 := Lib.hid (And.intro h2 (And.intro hI2 hrp2))
        clear hc hf hcells HS HH hp hI2 hrp2 h2 hcells2
        go_wp2_with fail
        refine wp_region_mid 8 (by kernel_rfl) (by kernel_rfl) rfl ?_
        simp only [List.take_succ_cons, List.take_zero, List.drop_succ_cons, List.drop_zero]
        repeat (go_big_quiet_step (fail))
        refine wpQuiet_nil ?_
        rintro _ ⟨nq, rfl⟩
        have hm := HM.out
        have hm0 : 0 < m := by omega
        have hmr : m ≤ rep := by omega
        have hmk : k + m ≤ n := by omega
        clear hm
        have h3 := HH2.out.1.drewN V nq
        have hI3 := HH2.out.2.1.drewN nq
        have hrp3 := HH2.out.2.2.drewN nq
        have HF := Lib.hid (fillOut_any V hform dcb base kk2 cur dv2 (w2.drewN nq) hN h3.st hcurN h3.ok ob (oo + k) m (co - k) cs' t h3.blk hm0 (by omega) (by omega) (by rw [h3.sz]; omega) hA.d.2.2.2.2.2.symm (fun e => (h3.far _ e).2.2.2.2.2.1 rfl) (fun e => (hA.f _ e).2.2.2.1 rfl))
        have HH3 := Lib.hid (And.intro h3 (And.intro hI3 hrp3))
        clear hc2 hf2 HH2 h3 hI3 hrp3
        generalize w2.drewN nq = w3 at *
        go_wp2_with fail
        refine HF.out.mono ?_
        rintro e w4 ⟨rfl, hp4, cs4, hob4, hsz4, hout4, hin4⟩
        have htk := HH3.out.2.2.reps_take m hmr
        obtain ⟨kk4, dv4, hkk4, h4, hI4⟩ := HH3.out.1.conv1 V hL hp4 HH3.out.2.1 hob4 hsz4 hout4 (fun j hj => by rw [hin4 j hj, getD_of_take htk j hj])
        have hrp4 := HH3.out.2.2.keepC hp4.1 (HH3.out.1.key V hA (.inr rfl))
        have hcells4 := hrp4.cells
        unfold RC at hcells4
        have hc4 := blk_cell hcells4
        have hf4 := blk_frozen hcells4
        have HH4 := Lib.hid (And.intro h4 (And.intro hI4 hrp4))
        clear HF HH3 hp4 hob4 hsz4 hout4 hin4 htk h4 hI4 hrp4 hcells4
        go_wp2_with fail
        repeat (go_big_quiet_step (fail))
        refine wpQuiet_nil ?_
        rintro _ ⟨nq2, rfl⟩
        go_wp2_with fail
        obtain ⟨h4, hI4, hrp4⟩ := HH4.out
        have hcells5 := blk_set (blk_drewN hrp4.cells nq2) 3 (.int .i32 ((rep : Int) - (m : Int)))
        rw [show (RC E W cur rep 0).setIfInBounds 3 (.int .i32 ((rep : Int) - (m : Int))) = RC E W cur (rep - m) 0 by rw [show (rep : Int) - (m : Int) = ((rep - m : Nat) : Int) by omega]; rfl] at hcells5
        have hk5 : Keep (fun b => b = rd) w4 ((w4.drewN nq2).setCell ⟨rd, 3, none⟩ (.int .i32 ((rep : Int) - (m : Int)))) := ((Keep.refl (fun b => b = rd) w4).drewN nq2).setCell (p := ⟨rd, 3, none⟩) (.inl rfl) _
        generalize (w4.drewN nq2).setCell ⟨rd, 3, none⟩ (.int .i32 ((rep : Int) - (m : Int))) = w5 at *
        have hrp5 := (hrp4.reps m hmr hk5 hA.rn hcells5).1
        rw [List.drop_drop] at hrp5
        have h5 := h4.read V hA hL hI4 (hk5.mono (fun _ h => .inr (.inr (.inl h))))
        have hI5 : IB w w5 dv4 ib cib := ⟨hI4.le, hk5.blk hI4.blk (by have := hL.all; have := hI4.le; omega), hI4.far⟩
        go_roundw
        case rel => exact ⟨k + m, hmk, by go_num, ⟨_, by rw [Nat.sub_sub, Nat.sub_sub], fun hlt => by rw [if_neg (by omega), Nat.add_assoc]⟩, cur, rep - m, 0, kk4, dv4, cs4, cib, ⟨h5, hrp5⟩, hI5, hcsz⟩
        case measure =>
          have := pend_le w5 rd
          show 2 * (n - ((k : Int) + (m : Int)).toNat) + _ < 2 * (n - ((k : Int)).toNat) + _
          omega
      · obtain rfl : rep = 0 := by omega
        by_cases hlit : 0 < lit
        · obtain ⟨off, bo, p, rs, hbl, hbo, hR, _, hp2, hpl, hrr⟩ := h.rp.pos
          have hbl := hbl.2 hlit
          have hp2' := hp2 hlit
          have hlit9 := h.rp.lit9
          have hlits : (0 : Int) < (lit : Int) := by omega
          obtain ⟨m, hm⟩ : ∃ m, m = min (min (n - k) lit) 1024 := ⟨_, rfl⟩
          have hm0 : 0 < m := by omega
          have hmr : m ≤ lit := by omega
          have hmk : k + m ≤ n := by omega
          have hm1024 : m ≤ 1024 := by omega
          have hmi1024 : (m : Int) ≤ 1024 := by omega
          have hmin1 : (if (lit : Int) < (n : Int) - (k : Int) then (lit : Int) else (n : Int) - (k : Int)) = ((min (n - k) lit : Nat) : Int) := by split <;> omega
          have hmin2 : (if (1024 : Int) < ((min (n - k) lit : Nat) : Int) then (1024 : Int) else ((min (n - k) lit : Nat) : Int)) = (m : Int) := by split <;> omega
          have hle := HIB.out
          have hmw : m * W ≤ lit * W := Nat.mul_le_mul_right _ hmr
          have HX := Lib.hid (And.intro h (And.intro hI (And.intro hR (And.intro hp2 (And.intro hpl hrr)))))
          have HI := Lib.hid (fun nq => index_any E (wr.drewN nq) hW (h.rp.drewN nq).src off bo m W hm0 hm1024 hW1 hW20 hbo (hbl.keep ((Keep.refl (fun _ => False) wr).drewN nq) (fun h => h)) (by omega) ib 0 1024 cib 263 (hI.drewN nq).blk (by omega) hm1024 (by have := hL.all; omega) (by have := hL.all; omega) (by have := hL.all; omega) (by have := hL.all; omega))
          clear h hI hm hle hbl hR hp2 hrr hp2'
          go_wp2_with fail
          refine wp_region_mid 12 (by kernel_rfl) (by kernel_rfl) rfl ?_
          simp only [List.take_succ_cons, List.take_zero, List.drop_succ_cons, List.drop_zero]
          repeat (go_big_quiet_step (fail))
          refine wpQuiet_nil ?_
          rintro _ ⟨nq, rfl⟩
          have hc0 := blk_cell (blk_drewN hcells nq)
          have HIn := Lib.hid (HI.out nq)
          clear hc HI
          go_wp2_with fail
          refine HIn.out.mono ?_
          rintro e w3 ⟨rfl, hk3, src3, ⟨off3, bo3, bl3, e3, hbo3⟩, cib3, blk3, sz3, out3, in3⟩
          obtain ⟨h, hI, hR, hp2, hpl2, hrr⟩ := HX.out
          have hl := hL.all
          have hle := hI.le
          have htk := h.rp.lits_take hrr m hmr
          have hf0 : ∀ nq j, j < m → (w3.drewN nq).cell? ⟨ib, 0 + j, none⟩ = some (.int .i32 (rest.getD (k + j) 0 : Nat)) := fun nq j hj => by
            rw [blk_cell (blk_drewN blk3 nq), getD_of_take_lit htk j hj]
            exact in3 j hj
          have hb0 : ∀ j, j < m → rest.getD (k + j) 0 < N := fun j hj => hrest _ (by
            rw [List.getD_eq_getElem?_getD, List.getElem?_eq_getElem (show k + j < rest.length by omega)]
            exact List.getElem_mem _)
          have h3 := (h.toGV.drewN V nq).read V hA hL (hI.drewN nq) (hk3.mono (fun _ h => h.imp id (fun h => h.imp id .inr)))
          have hI3 : IB w w3 dv' ib cib3 := ⟨hle, blk3, hI.far⟩
          have lp3 : LP E w3 rd T W cur lit off3 bo3 := ⟨hk3.blk (blk_drewN h.rp.cells nq) (by have := hA.rn.n1; have := hA.rn.n2; rintro (e | e | e) <;> omega), src3, bl3⟩
          have HV := Lib.hid (fun nq => isValid_any V dcb base kk dv' (w3.drewN nq) hN (h3.drewN V nq).st (h3.drewN V nq).ok ib 0 m 1024 (fun j => rest.getD (k + j) 0) hm0 hm1024 (hf0 nq) hb0)
          have H3 := Lib.hid (And.intro h3 (And.intro hI3 (And.intro lp3 (And.intro (sz3.trans hcsz) (And.intro hf0 e3)))))
          clear hc0 HIn hk3 src3 bl3 e3 blk3 sz3 out3 in3 h hI hR hp2 hpl2 hrr hl hle htk hf0 hb0 h3 hI3 lp3 hf hcells
          go_wp2_with fail
          repeat (go_big_quiet_step (fail))
          refine wpQuiet_nil ?_
          rintro _ ⟨nq2, rfl⟩
          have HVn := Lib.hid (HV.out nq2)
          have H4 := Lib.hid (And.intro (H3.out.1.drewN V nq2) (And.intro (H3.out.2.1.drewN nq2) (And.intro (H3.out.2.2.1.drewN nq2) (And.intro H3.out.2.2.2.1 (And.intro (H3.out.2.2.2.2.1 nq2) H3.out.2.2.2.2.2)))))
          clear HV H3
          generalize w3.drewN nq2 = w4 at *
          go_wp2_with fail
          refine HVn.out.mono ?_
          rintro e w5 ⟨rfl, hp5⟩
          obtain ⟨h4, hI4, lp4, sz4, hf4, e4⟩ := H4.out
          obtain ⟨kk5, dv5, hkk5, h5, hI5⟩ := h4.conv0 V hA hL hp5 hI4
          have lp5 := lp4.keepC hp5.1 (h4.key V hA (.inl rfl))
          have hl := hL.all
          have hle := hI4.le
          have hf5 : ∀ j, j < m → w5.cell? ⟨ib, 0 + j, none⟩ = some (.int .i32 (rest.getD (k + j) 0 : Nat)) := fun j hj => by
            have e1 := hf4 j hj
            rw [blk_cell hI4.blk] at e1
            rw [blk_cell hI5.blk]
            exact e1
          have HC := Lib.hid (copyOut_any hform dcb base kk5 dv5 w5 h5.st ib 0 m 1024 (fun j => rest.getD (k + j) 0) hm1024 hf5 hkk5 ob (oo + k) (n - k) (co - k) cs' t h5.blk (by omega) (by rw [h5.sz]; omega) hA.d.2.2.2.2.2.symm (fun e => (h5.far _ e).2.2.2.2.2.1 rfl) (by omega))
          have H5 := Lib.hid (And.intro h5 (And.intro hI5 (And.intro lp5 (And.intro sz4 e4))))
          clear HVn H4 hp5 h4 hI4 lp4 sz4 hf4 e4 h5 hI5 lp5 hl hle hf5
          go_wp2_with fail
          refine HC.out.mono ?_
          rintro e w6 ⟨rfl, hk6, cs6, hob6, hsz6, hout6, hin6⟩
          obtain ⟨h5, hI5, lp5, sz5, e5⟩ := H5.out
          have hp6 : CPost VD vals pd N dcb base w5 dv5 (some ob) (fun _ => True) w6 := ⟨hk6.mono (fun _ h => .inr (.inr (.inr (by rw [h])))), dv5, kk5, trivial, h5.st.keep V hk6 hA.d.2.2.2.2.2 (fun b hb e => (h5.far _ hb).2.2.2.2.2.1 e) (fun b hb e => (hA.f _ hb).2.2.2.1 e), .inl rfl⟩
          obtain ⟨kk6, dv6, _, h6, hI6⟩ := h5.conv1 V hL hp6 hI5 hob6 hsz6 hout6 hin6
          have lp6 := lp5.keepC hp6.1 (h5.key V hA (.inr rfl))
          have hcells6 := lp6.cells
          unfold RC at hcells6
          have hc6 := blk_cell hcells6
          have hf6 := blk_frozen hcells6
          have H6 := Lib.hid (And.intro h6 (And.intro hI6 (And.intro lp6 (And.intro sz5 e5))))
          clear HC H5 hk6 hob6 hsz6 hout6 hin6 h5 hI5 lp5 sz5 e5 hp6 h6 hI6 lp6 hcells6
          go_wp2_with fail
          obtain ⟨h6, hI6, lp6, sz6, e6⟩ := H6.out
          have hcells7 := blk_set lp6.cells 4 (.int .i32 ((lit : Int) - (m : Int)))
          rw [show (RC E W cur 0 lit).setIfInBounds 4 (.int .i32 ((lit : Int) - (m : Int))) = RC E W cur 0 (lit - m) by rw [show (lit : Int) - (m : Int) = ((lit - m : Nat) : Int) by omega]; rfl] at hcells7
          have hk7 : Keep (fun b => b = rd) w6 (w6.setCell ⟨rd, 4, none⟩ (.int .i32 ((lit : Int) - (m : Int)))) := (Keep.refl (fun b => b = rd) w6).setCell (p := ⟨rd, 4, none⟩) (.inl rfl) _
          generalize w6.setCell ⟨rd, 4, none⟩ (.int .i32 ((lit : Int) - (m : Int))) = w7 at *
          obtain ⟨h, hI, hR, hp2, hpl2, hrr⟩ := HX.out
          have hrp7 := (h.rp.lits hR hp2 hpl2 hrr m hmr hlit (lp6.src.keep hk7 hA.rn.n2.symm hA.rn.n3.symm hA.rn.n4.symm) (lp6.bl.keep hk7 hA.rn.n1.symm) hbo3 e6 hcells7).1
          rw [List.drop_drop] at hrp7
          have h7 := h6.read V hA hL hI6 (hk7.mono (fun _ h => .inr (.inr (.inl h))))
          have hI7 : IB w w7 dv6 ib cib3 := ⟨hI6.le, hk7.blk hI6.blk (by have := hL.all; have := hI6.le; omega), hI6.far⟩
          go_roundw
          case rel => exact ⟨k + m, hmk, by go_num, ⟨_, by rw [Nat.sub_sub, Nat.sub_sub], fun hlt => by rw [if_neg (by omega), Nat.add_assoc]⟩, cur, 0, lit - m, kk6, dv6, cs6, cib3, ⟨h7, hrp7⟩, hI7, sz6⟩
          case measure =>
            have := pend_le w7 rd
            show 2 * (n - ((k : Int) + (m : Int)).toNat) + _ < 2 * (n - ((k : Int)).toNat) + _
            omega
        · obtain rfl : lit = 0 := by omega
          have HNX := Lib.hid (next_st E wr hW rd T W cur (rest.drop k) hA.rn hW1 hW20 h.rp hlen)
          have HH := Lib.hid (And.intro h hI)
          clear h hI
          go_wp2_with fail
          refine HNX.out.mono ?_
          rintro e w2 ⟨rfl, hk1, cur1, rep1, lit1, h1, hpos⟩
          have hpd1 := pend_of h1.cells
          have hG1 := HH.out.1.toGV.read V hA hL HH.out.2 (hk1.mono (fun _ h => h.imp id (fun h => .inr (.inl h))))
          have hI1 : IB w w2 dv' ib cib := ⟨HH.out.2.le, hk1.blk HH.out.2.blk (by have := hL.all; have := HH.out.2.le; rintro (e | e) <;> omega), HH.out.2.far⟩
          have HG1 := Lib.hid (And.intro hG1 (And.intro hI1 h1))
          clear hc hf HNX hk1 hcells hG1 hI1 h1
          go_wp2_with fail
          go_roundw
          case rel => exact ⟨k, hkn, rfl, ⟨_, rfl, fun _ => rfl⟩, cur1, rep1, lit1, kk, dv', cs', cib, ⟨HG1.out.1, HG1.out.2.2⟩, HG1.out.2.1, hcsz⟩
          case measure =>
            have e1 : pend w2 rd = 0 := by rw [hpd1, if_neg (by omega)]
            have e2 : pend wr rd = 1 := by rw [hpd]; rfl
            omega
    · obtain rfl : k = n := by omega
      clear hpd
      go_wp2_with fail
      go_ret2
      exact ⟨rfl, cur, rep, lit, kk, dv', cs', h⟩
end Go.Proofs.YtdamippibpbjhaaGreatDoor.I32

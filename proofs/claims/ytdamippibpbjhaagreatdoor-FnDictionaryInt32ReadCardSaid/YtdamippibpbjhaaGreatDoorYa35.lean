import Derived.Test.YtdamippibpbjhaaGreatDoorYa34
import Derived.Laws.AppendOwnNone
/-! Whether runs are asked, and all their values. -/
namespace Go.Proofs.YtdamippibpbjhaaGreatDoor
open Go.RowKit

/-- An append to a row of one's own of what may be nil. -/
theorem wpList_append_own_src {P : Program} {w : World} {ops : Array Oper} {rest : List Oper} {o : Oper} {a : Act} {Q : Exit → Act → World → Prop} (hgd : o.guard = none) (s x : Operand) (t : TypeId)
    (ho : o.op = .call { callee := .builtin .append, args := #[s, x], argTypes := #[t, t] })
    (base : Nat) (e : TypeId) (i : TypeInfo) (z : Value) (size bytes : Nat) (ht : P.underlying t = some (.slice e)) (hi : P.info? e = some i) (hz : i.zero = some z)
    (hsize : i.size = size) (hby : i.bytes = bytes) (hzs : z.cells.size = size) (hsz : 0 < size)
    (v : Value) (n : Nat) (xs : List Value) (hs : a.eval s = v) (hown : w.ownsRow base e size v n xs)
    (A : Option Addr) (m c : Nat) (news : List Value) (hx : a.eval x = .slice A m c) (hA : A = none → m = 0 ∧ c = 0) (hl : news.length = m * size) (hnews : ∀ ad, A = some ad → ∀ j u, news[j]? = some u → w.cell? (ad.add j) = some u) (h1 : ∀ u ∈ news, u.oneCell' = true)
    (h63 : n + m ≤ maxLen) (hbytes : (n + m) * bytes ≤ 140737488355328) (hbase : base ≤ w.heap.size)
    (h : ∀ v' w', w'.ownsRow base e size v' (n + m) (xs ++ news) → w.grownBy w' v.ownBlock → (v'.ownBlock = v.ownBlock ∨ v'.ownBlock = some w.heap.size) → wpList P ops Q rest (a.put o.dst v') w') :
    wpList P ops Q (o :: rest) a w := by
  cases A with
  | none =>
    obtain ⟨rfl, rfl⟩ := hA rfl
    have hn : news = [] := List.eq_nil_of_length_eq_zero (by omega)
    subst hn
    exact wpList_append_own_none hgd s x t ho base e i size ht hi v n xs hs hown hx (h v w (by rw [Nat.add_zero, List.append_nil]; exact hown) ⟨rfl, rfl, rfl, Nat.le_refl _, fun _ _ _ => rfl⟩ (.inl rfl))
  | some ad => exact wpList_append_own_at w hgd s x t ho base e i z size bytes ht hi hz hsize hby hzs hsz v n xs hs hown ad m c news hx hl (hnews ad rfl) h1 h63 hbytes hbase (fun v' w' a b _ d => h v' w' a b d)

def natsI (l : List Nat) : List Int := l.map fun x => ((x : Nat) : Int)
theorem natsI_length (l : List Nat) : (natsI l).length = l.length := by simp [natsI]
theorem natsI_append (l m : List Nat) : natsI (l ++ m) = natsI l ++ natsI m := by simp [natsI]
def SRunM.run (r : SRunM) : SRun := r.toSRun
/-- All values of the first k runs. -/
def allM (l : List SRunM) (k : Nat) : List Int := natsI (allOf ((l.take k).map SRunM.run))
theorem allM_succ (l : List SRunM) (k : Nat) (h : k < l.length) : allM l (k + 1) = allM l k ++ natsI l[k].run.rle.vals := by
  unfold allM
  rw [List.take_succ_eq_append_getElem h, List.map_append, allOf_append, natsI_append]
  simp [allOf, runVals]
/-- Values of a run, as the reference lays them. -/
theorem vals_packed (r : SRun) (hp : r.packed = true) (hl : (r.vals.length : Int) ≤ 8 * r.count) (h0 : ∀ t, t < r.vals.length → 0 ≤ r.vals.getD t 0) : natsI r.rle.vals = r.vals ++ List.replicate (8 * r.count.toNat - r.vals.length) 0 := by
  have hlen : (natsI r.rle.vals).length = 8 * r.count.toNat := by rw [natsI_length, r.vals_length, if_pos hp]
  apply List.ext_getElem?
  intro i
  by_cases hi : i < 8 * r.count.toNat
  · have e1 : (natsI r.rle.vals)[i]? = some (((r.f i : Nat)) : Int) := by
      simp only [natsI, Rle.vals, SRun.rle, Rle.n, hp, if_true, List.getElem?_map]
      rw [List.getElem?_range hi]
      rfl
    rw [e1]
    unfold SRun.f
    rw [if_pos hp]
    by_cases hv : i < r.vals.length
    · rw [List.getElem?_append_left hv]
      have := h0 i hv
      rw [List.getElem?_eq_getElem hv, Option.some.injEq]
      have e : r.vals.getD i 0 = r.vals[i] := by rw [List.getD_eq_getElem?_getD, List.getElem?_eq_getElem hv]; rfl
      rw [e] at this ⊢
      omega
    · rw [List.getElem?_append_right (by omega), List.getElem?_replicate, if_pos (by omega), List.getD_eq_getElem?_getD, List.getElem?_eq_none (by omega)]
      rfl
  · rw [List.getElem?_eq_none (by omega), List.getElem?_eq_none (by simp; omega)]
theorem vals_rep (r : SRun) (hp : r.packed = false) (h0 : 0 ≤ r.vals.getD 0 0) : natsI r.rle.vals = List.replicate r.count.toNat (r.vals.getD 0 0) := by
  have hlen : (natsI r.rle.vals).length = r.count.toNat := by rw [natsI_length, r.vals_length]; simp [hp]
  apply List.ext_getElem?
  intro i
  by_cases hi : i < r.count.toNat
  · have e1 : (natsI r.rle.vals)[i]? = some (((r.f i : Nat)) : Int) := by
      simp only [natsI, Rle.vals, SRun.rle, Rle.n, hp, Bool.false_eq_true, if_false, List.getElem?_map]
      rw [List.getElem?_range hi]
      rfl
    rw [e1, List.getElem?_replicate, if_pos hi]
    unfold SRun.f
    rw [hp, if_neg (by simp), Option.some.injEq]
    omega
  · rw [List.getElem?_eq_none (by omega), List.getElem?_eq_none (by simp; omega)]
/-- What is known of the first k runs. -/
structure RF (l : List SRunM) (W : Nat) (w : World) (k : Nat) (vv : Value) (wr : World) : Prop where
  ok : ∀ j (h : j < l.length), j < k → l[j].run.Ok W
  own : OU wr w.heap.size vv (allM l k)
  kp : Keep (fun _ => False) w wr
theorem allM_le (l : List SRunM) (W k : Nat) (hk : k ≤ l.length) (h : ∀ j (h : j < l.length), j < k → l[j].run.Ok W) : (allM l k).length ≤ 300 * k := by
  unfold allM
  rw [natsI_length]
  have := allOf_le W ((l.take k).map SRunM.run) (fun r hr => by
    simp only [List.mem_map] at hr
    obtain ⟨m, hm, rfl⟩ := hr
    obtain ⟨j, hj, rfl⟩ := List.getElem_of_mem hm
    simp only [List.length_take] at hj
    rw [List.getElem_take]
    exact h j (by omega) (by omega))
  simp only [List.length_map, List.length_take] at this
  rw [Nat.min_eq_left hk] at this
  exact this
/-- A value and a bool come back; what is known of it. -/
def Two (P : Value → World → Prop) (e : Ending) (w' : World) : Prop := ∃ v b, e = .returned (.tuple #[v, .bool b]) ∧ (b = false → v = .slice none 0 0) ∧ (b = true → P v w')
theorem Two.no {P : Value → World → Prop} {w' : World} : Two P (.returned (.tuple #[.slice none 0 0, .bool false])) w' := ⟨_, false, rfl, fun _ => rfl, fun h => (nomatch h)⟩
theorem Two.yes {P : Value → World → Prop} {w' : World} {v : Value} (h : P v w') : Two P (.returned (.tuple #[v, .bool true])) w' := ⟨_, true, rfl, fun h => (nomatch h), fun _ => h⟩

set_option maxRecDepth 100000 in
set_option maxHeartbeats 8000000 in
theorem runsFit_any (A : Option Addr) (l : List SRunM) (c W : Nat) (hW1 : 1 ≤ W) (hW20 : W ≤ 20) (w : World) (hl : Runs w A l) :
    Calls Tryz.prog 51 #[.slice A l.length c, .int .i64 W] w fun e w' => Two (fun v w' => l.length ≤ 40 ∧ RF l W w l.length v w') e w' ∧ Keep (fun _ => False) w w' := by
  have hRF0 : RF l W w 0 (.slice none 0 0) w := ⟨fun j _ hj => absurd hj (by omega), OU.nil _ _, Keep.refl _ _⟩
  obtain ⟨i5, hi5, hi5z⟩ := Option.map_eq_some_iff.1 info45
  simp only [Prod.mk.injEq] at hi5z
  obtain ⟨hz1, hz2, hz3⟩ := hi5z
  have hWi1 : ¬ ((W : Int) < 1) := by omega
  have hWi2 : ¬ ((64 : Int) < (W : Int)) := by omega
  have hWi3 : (W : Int) < 64 := by omega
  by_cases h40 : (40 : Int) < (l.length : Int)
  · go_enter Tryz.func51, Tryz.ntmps51
    go_wp2_with fail
    go_ret2
    exact ⟨.no, Keep.refl _ _⟩
  have hl40 : l.length ≤ 40 := by omega
  go_enter Tryz.func51, Tryz.ntmps51
  go_wp2_with fail
  go_loopw [6, 8, 10, 11, 12, 26] (fun vv _ _ _ _ i wr => ∃ k : Nat, k ≤ l.length ∧ i = .int .i64 k ∧ RF l W w k vv wr) (fun _ _ _ _ _ i _ => l.length - (intOf i).toNat)
  case atStart => exact ⟨0, Nat.zero_le _, rfl, hRF0⟩
  case round =>
    obtain ⟨k, hk, rfl, hrf⟩ := hrel
    by_cases h : k < l.length
    · obtain ⟨g, o, rfl, hrow⟩ := hl (by omega)
      obtain ⟨x0, x1, x2, xu, xc, x47, xn, xb⟩ := (hrow.keep hrf.kp (fun h => h) (fun _ _ h => h)) k h
      have hk0 : (0 : Int) ≤ (k : Int) := by omega
      have hk1 : (k : Int) < (l.length : Int) := by omega
      have xw := (hrow k h).2.2.2.1
      have hall := allM_succ l k h
      have hle := allM_le l W k hk hrf.ok
      have HR := Lib.hid (And.intro hrf (And.intro hall hle))
      clear hrf hall hle
      obtain ⟨r, hr⟩ : ∃ r, r = l[k] := ⟨_, rfl⟩
      rw [← hr] at x0 x1 x2 xu xc x47 xn xb xw
      have HRR := Lib.hid hr
      clear hr
      obtain ⟨⟨pk, cn, vs⟩, ra, rc⟩ := r
      simp only at x0 x1 x2 xu xc x47 xn xb xw
      clear xu
      have hb := blk_new wr (.cells #[.bool pk, .int .i64 cn, .slice ra vs.length rc] 76)
      have hkA : Keep (fun _ => False) wr (wr.alloc (.cells #[.bool pk, .int .i64 cn, .slice ra vs.length rc] 76)) := (Keep.refl _ wr).alloc _
      have hkwA := Lib.hid (HR.out.1.kp.trans hkA)
      by_cases hc1 : cn < 1
      · go_wp2_with fail
        go_ret2
        exact ⟨.no, hkwA.out⟩
      cases pk
      · by_cases hc3 : 300 < cn
        · go_wp2_with fail
          go_ret2
          exact ⟨.no, hkwA.out⟩
        by_cases hvl : vs.length = 1
        · have HVL := Lib.hid hvl
          have hvl' : ((vs.length : Int) != 1) = false := by simp; omega
          clear hvl
          have hnp : RF l W w k u6 wr := HR.out.1
          have hown0 := hnp.own.keep hkA (fun _ _ h => h)
          have hkw0 := hkwA.out
          have xuA := xw.keep hkw0 (fun _ _ h => h)
          go_wp2_with fail
          generalize hwa : wr.alloc (.cells #[.bool false, .int .i64 cn, .slice ra vs.length rc] 76) = wa at *
          clear hwa hkA
          generalize hrb : wr.heap.size = rb at *
          clear hrb
          go_loopw [10, 70] (fun _ i wr => ∃ z : Nat, z ≤ vs.length ∧ i = .int .i64 z ∧ wr = wa ∧ ∀ j, j < z → vs.getD j 0 < 2 ^ W) (fun _ i _ => vs.length - (intOf i).toNat)
          case atStart => exact ⟨0, Nat.zero_le _, rfl, rfl, fun j hj => absurd hj (by omega)⟩
          case round =>
            obtain ⟨z, hz, rfl, rfl, hlt⟩ := hrel
            have HLT := Lib.hid hlt
            clear hlt
            by_cases hzm : z < vs.length
            · obtain ⟨gv, ov, hra, hrv⟩ := xuA (by omega)
              subst hra
              have hxz := hrv z hzm
              have hbz := xb z hzm
              have hz0 : (0 : Int) ≤ (z : Int) := by omega
              have hz1 : (z : Int) < (vs.length : Int) := by omega
              generalize hxv : vs.getD z 0 = x at *
              have HXV := Lib.hid hxv
              have hp2 : (0 : Int) < 2 ^ W := Int.pow_pos (by decide)
              clear hxv
              by_cases hx : x < 2 ^ W
              · have hsh : x / 2 ^ W = 0 := Int.ediv_eq_zero_of_lt hbz.1 hx
                go_wp2_with fail
                go_roundw
                case rel => exact ⟨z + 1, hzm, by go_num, trivial, fun j hj => by
                  by_cases e : j = z
                  · rw [e, HXV.out]; exact hx
                  · exact HLT.out j (by omega)⟩
                case measure => simp [intOf]; omega
              · have hsh : ¬ (x / 2 ^ W ≤ 0) := by
                  have h1 : (1 : Int) ≤ x / 2 ^ W := by rw [Int.le_ediv_iff_mul_le hp2]; omega
                  omega
                have hsh' : 0 < x / 2 ^ W := by omega
                go_wp2_with fail
                go_ret2
                exact ⟨.no, hkw0⟩
            · obtain rfl : z = vs.length := by omega
              clear hzm hz
              have hvl := HVL.out
              obtain ⟨v0, hv0⟩ := List.length_eq_one_iff.1 hvl
              obtain ⟨gv, ov, hra, hrv⟩ := xuA (by omega)
              subst hra
              have hx0 := hrv 0 (by omega)
              have hgv : gv < w.heap.size := by
                obtain ⟨gv', ov', e, hr'⟩ := xw (by omega)
                cases e
                exact World.block_lt_of_cell? w _ (hr' 0 (by omega))
              have hxb0 := xb 0 (by omega)
              have hlt0 := HLT.out 0 (by omega)
              rw [hv0] at hx0 hxb0 hlt0
              simp only [List.getD_cons_zero, Nat.add_zero] at hx0 hxb0 hlt0
              obtain ⟨N, hN⟩ : ∃ N : Nat, (N : Int) = cn := ⟨cn.toNat, by omega⟩
              have hok : l[k].run.Ok W := by
                rw [← HRR.out]
                refine ⟨by show 1 ≤ cn; omega, fun h => (nomatch h), fun _ => ⟨by show cn ≤ 300; omega, hvl⟩, fun i => ?_, fun i => ?_⟩
                · show 0 ≤ vs.getD i 0
                  rw [hv0]
                  cases i with
                  | zero => exact hxb0.1
                  | succ i => simp
                · show vs.getD i 0 < 2 ^ W
                  rw [hv0]
                  cases i with
                  | zero => exact hlt0
                  | succ i => simp; exact Int.pow_pos (by decide)
              have hvals : natsI l[k].run.rle.vals = List.replicate N v0 := by
                rw [← HRR.out]
                have := vals_rep (SRunM.run ⟨⟨false, cn, vs⟩, some ⟨gv, ov, none⟩, rc⟩) rfl (by show 0 ≤ vs.getD 0 0; rw [hv0]; exact hxb0.1)
                rw [this]
                show List.replicate cn.toNat (vs.getD 0 0) = _
                rw [hv0, ← hN]
                rfl
              have hN300 : N ≤ 300 := by omega
              have hM := HR.out.2.2
              have hkk : k ≤ 40 := by omega
              have HV := Lib.hid (And.intro hok hvals)
              have hvli : (0 : Int) < (vs.length : Int) := by omega
              clear hvl hvl'
              clear hok hvals
              subst hN
              clear hv0
              have hcb := blk_cell hb
              go_wp2_with fail
              go_loopw [6, 12] (fun vv i wr => ∃ z : Nat, z ≤ N ∧ i = .int .i64 z ∧ OU wr w.heap.size vv (allM l k ++ List.replicate z v0) ∧ Keep (fun _ => False) w wr ∧ wr.heap[rb]? = some (.cells #[.bool false, .int .i64 (N : Int), .slice (some ⟨gv, ov, none⟩) vs.length rc] 76 (0, 0)) ∧ wr.cell? ⟨gv, ov, none⟩ = some (.int .u64 v0)) (fun _ i _ => N - (intOf i).toNat)
              case atStart => exact ⟨0, Nat.zero_le _, rfl, by simpa using hown0, hkw0, hb, hx0⟩
              case round =>
                obtain ⟨z, hz, rfl, hownz, hkz, hbz, hxz⟩ := hrel
                clear hown0 hb hx0 hcb
                have hcz := blk_cell hbz
                by_cases hzN : z < N
                · have hzi : (z : Int) < (N : Int) := by omega
                  have hA : Keep (fun _ => False) wr (wr.alloc (.cells #[.int .u64 v0] 45)) := (Keep.refl _ wr).alloc _
                  have hown1 := hownz.keep hA (fun _ _ h => h)
                  have hzl : (allM l k ++ List.replicate z v0).length = (allM l k).length + z := by simp
                  have hks := (hkz.trans hA).size
                  unfold OU at hown1
                  have hcz1 := blk_cell (hA.blk hbz (fun h => h))
                  go_wp2_with (first | (at_builtin; refine wpList_append_own_at _ rfl _ _ _ rfl w.heap.size 45 i5 (.int .u64 0) 1 8 (by kernel_rfl) hi5 hz1 hz2 hz3 rfl (by omega) u6 (allM l k ++ List.replicate z v0).length (nums .u64 (allM l k ++ List.replicate z v0)) rfl hown1 ⟨wr.heap.size, 0, none⟩ 1 1 [.int .u64 v0] rfl rfl (World.news_of_block (cs := #[.int .u64 v0]) (t := 45) (fr := (0, 0)) (blk_new wr _)) (by simp [Value.oneCell']) (by simp only [maxLen]; omega) (by omega) hks ?_))
                  intro v' w2 hown2 hgrow _ hat2
                  obtain ⟨j1, _, j3⟩ := ap_step hkz hA hownz hgrow (by simpa using hat2)
                  have hf := OU.snoc (xs := allM l k ++ List.replicate z v0) (ys := [v0]) (by rw [hzl]; exact hown2) rfl
                  rw [List.append_assoc, show List.replicate z v0 ++ [v0] = List.replicate (z + 1) v0 by rw [List.replicate_succ']] at hf
                  have hb2 := j3 _ _ _ hbz (by decide)
                  have hx2 : w2.cell? ⟨gv, ov, none⟩ = some (.int .u64 v0) := (grown_keep hgrow).cell (hA.cell hxz (fun h => h)) (fun e => by have h2 := (ownsRow_lt hownz gv e).2; omega)
                  have HF := Lib.hid (And.intro hf (And.intro j1 (And.intro hb2 hx2)))
                  clear hcz hcz1 hownz hown1 hown2 hgrow hat2 hA j1 j3 hf hb2 hx2 hbz hxz hkz
                  go_wp2_with fail
                  go_roundw
                  case rel => exact ⟨z + 1, hzN, by go_num, HF.out.1, HF.out.2.1, HF.out.2.2.1, HF.out.2.2.2⟩
                  case measure => simp [intOf]; omega
                · obtain rfl : z = N := by omega
                  go_wp2_with fail
                  go_roundw
                  case rel => exact ⟨k + 1, h, by go_num, fun j hj hjk => by
                    by_cases e : j = k
                    · subst e; exact HV.out.1
                    · exact HR.out.1.ok j hj (by omega), by rw [HR.out.2.1, HV.out.2]; exact hownz, hkz⟩
                  case measure => simp [intOf]; omega
        · have hvl' : ((vs.length : Int) != 1) = true := by simp; omega
          go_wp2_with fail
          go_ret2
          exact ⟨.no, hkwA.out⟩
      · by_cases hc3 : 20 < cn
        · go_wp2_with fail
          go_ret2
          exact ⟨.no, hkwA.out⟩
        have hm64 : wrap64 (8 * cn) = 8 * cn := by unfold wrap64; omega
        by_cases hvl : 8 * cn < (vs.length : Int)
        · go_wp2_with fail
          go_ret2
          exact ⟨.no, hkwA.out⟩
        have hnp : RF l W w k u6 wr := HR.out.1
        have hown0 := hnp.own.keep hkA (fun _ _ h => h)
        have hkw0 := hkwA.out
        have xuA := xw.keep hkw0 (fun _ _ h => h)
        go_wp2_with fail
        generalize hwa : wr.alloc (.cells #[.bool true, .int .i64 cn, .slice ra vs.length rc] 76) = wa at *
        clear hwa hkA
        generalize hrb : wr.heap.size = rb at *
        clear hrb
        go_loopw [10, 70] (fun _ i wr => ∃ z : Nat, z ≤ vs.length ∧ i = .int .i64 z ∧ wr = wa ∧ ∀ j, j < z → vs.getD j 0 < 2 ^ W) (fun _ i _ => vs.length - (intOf i).toNat)
        case atStart => exact ⟨0, Nat.zero_le _, rfl, rfl, fun j hj => absurd hj (by omega)⟩
        case round =>
          obtain ⟨z, hz, rfl, rfl, hlt⟩ := hrel
          have HLT := Lib.hid hlt
          clear hlt
          by_cases hzm : z < vs.length
          · obtain ⟨gv, ov, hra, hrv⟩ := xuA (by omega)
            subst hra
            have hxz := hrv z hzm
            have hbz := xb z hzm
            have hz0 : (0 : Int) ≤ (z : Int) := by omega
            have hz1 : (z : Int) < (vs.length : Int) := by omega
            generalize hxv : vs.getD z 0 = x at *
            have HXV := Lib.hid hxv
            have hp2 : (0 : Int) < 2 ^ W := Int.pow_pos (by decide)
            clear hxv
            by_cases hx : x < 2 ^ W
            · have hsh : x / 2 ^ W = 0 := Int.ediv_eq_zero_of_lt hbz.1 hx
              go_wp2_with fail
              go_roundw
              case rel => exact ⟨z + 1, hzm, by go_num, trivial, fun j hj => by
                by_cases e : j = z
                · rw [e, HXV.out]; exact hx
                · exact HLT.out j (by omega)⟩
              case measure => simp [intOf]; omega
            · have hsh : ¬ (x / 2 ^ W ≤ 0) := by
                have h1 : (1 : Int) ≤ x / 2 ^ W := by rw [Int.le_ediv_iff_mul_le hp2]; omega
                omega
              have hsh' : 0 < x / 2 ^ W := by omega
              go_wp2_with fail
              go_ret2
              exact ⟨.no, hkw0⟩
          · obtain rfl : z = vs.length := by omega
            clear hzm hz
            have hlt0 := HLT.out
            obtain ⟨N, hN⟩ : ∃ N : Nat, (N : Int) = cn := ⟨cn.toNat, by omega⟩
            have hok : l[k].run.Ok W := by
              rw [← HRR.out]
              refine ⟨by show 1 ≤ cn; omega, fun _ => ⟨by show cn ≤ 20; omega, by show (vs.length : Int) ≤ 8 * cn; omega⟩, fun h => (nomatch h), fun i => ?_, fun i => ?_⟩
              · show 0 ≤ vs.getD i 0
                by_cases hi : i < vs.length
                · exact (xb i hi).1
                · rw [List.getD_eq_getElem?_getD, List.getElem?_eq_none (by omega)]
                  exact Int.le_refl _
              · show vs.getD i 0 < 2 ^ W
                by_cases hi : i < vs.length
                · exact hlt0 i hi
                · rw [List.getD_eq_getElem?_getD, List.getElem?_eq_none (by omega)]
                  exact Int.pow_pos (by decide)
            have hvals : natsI l[k].run.rle.vals = vs ++ List.replicate (8 * N - vs.length) 0 := by
              rw [← HRR.out]
              have := vals_packed (SRunM.run ⟨⟨true, cn, vs⟩, ra, rc⟩) rfl (by show (vs.length : Int) ≤ 8 * cn; omega) (fun t ht => (xb t ht).1)
              rw [this]
              show vs ++ List.replicate (8 * cn.toNat - vs.length) 0 = _
              rw [← hN]
              rfl
            have hN20 : N ≤ 20 := by omega
            have hvN : vs.length ≤ 8 * N := by omega
            have hM := HR.out.2.2
            have hkk : k ≤ 40 := by omega
            have HV := Lib.hid (And.intro hok hvals)
            clear hok hvals hlt0
            subst hN
            have hcb := blk_cell hb
            have hownA := hown0
            unfold OU at hownA
            have hraN : ra = none → vs.length = 0 ∧ rc = 0 := fun e => by
              refine ⟨?_, xn e⟩
              rcases Nat.eq_zero_or_pos vs.length with h0 | h0
              · exact h0
              · obtain ⟨_, _, e', _⟩ := xuA h0
                rw [e] at e'
                cases e'
            have hsrc : ∀ ad, ra = some ad → ∀ j u, (nums .u64 vs)[j]? = some u → wr.cell? (ad.add j) = some u := fun ad e j u hj => by
              have hj' : j < vs.length := by have := (List.getElem?_eq_some_iff.1 hj).1; simpa using this
              obtain ⟨gv, ov, e', hrv⟩ := xuA (by omega)
              rw [e] at e'
              cases e'
              exact hrv.src j u hj
            have hks := hkw0.size
            go_wp2_with (first | (at_builtin; refine wpList_append_own_src rfl _ _ _ rfl w.heap.size 45 i5 (.int .u64 0) 1 8 (by kernel_rfl) hi5 hz1 hz2 hz3 rfl (by omega) u6 (allM l k).length (nums .u64 (allM l k)) rfl hownA ra vs.length rc (nums .u64 vs) rfl hraN (by simp) hsrc (nums_ones _ _) (by simp only [maxLen]; omega) (by omega) hks ?_))
            intro v' w2 hown2 hgrow hat2
            obtain ⟨j1, _, j3⟩ := ap_step hkw0 (Keep.refl _ wr) hown0 hgrow hat2
            have hf := OU.snoc (ys := vs) hown2 rfl
            have hb2 := j3 _ _ _ hb (by decide)
            clear hown0 hownA hown2 hgrow hat2 j3 hcb hb hkw0 hsrc hraN xuA hks
            have hcb := blk_cell hb2
            go_wp2_with fail
            go_loopw [6, 11] (fun vv i wr => ∃ z : Nat, vs.length ≤ z ∧ z ≤ 8 * N ∧ i = .int .i64 z ∧ OU wr w.heap.size vv (allM l k ++ (vs ++ List.replicate (z - vs.length) 0)) ∧ Keep (fun _ => False) w wr ∧ wr.heap[rb]? = some (.cells #[.bool true, .int .i64 (N : Int), .slice ra vs.length rc] 76 (0, 0))) (fun _ i _ => 8 * N - (intOf i).toNat)
            case atStart => exact ⟨vs.length, Nat.le_refl _, hvN, rfl, by simpa using hf, j1, hb2⟩
            case round =>
              obtain ⟨z, hz0, hz, rfl, hownz, hkz, hbz⟩ := hrel
              clear hf hb2 hcb j1
              have hcz := blk_cell hbz
              by_cases hzN : z < 8 * N
              · have hzi : (z : Int) < 8 * (N : Int) := by omega
                have hA : Keep (fun _ => False) wr (wr.alloc (.cells #[.int .u64 0] 45)) := (Keep.refl _ wr).alloc _
                have hown1 := hownz.keep hA (fun _ _ h => h)
                have hzl : (allM l k ++ (vs ++ List.replicate (z - vs.length) 0)).length = (allM l k).length + z := by simp; omega
                have hks := (hkz.trans hA).size
                unfold OU at hown1
                have hcz1 := blk_cell (hA.blk hbz (fun h => h))
                go_wp2_with (first | (at_builtin; refine wpList_append_own_at _ rfl _ _ _ rfl w.heap.size 45 i5 (.int .u64 0) 1 8 (by kernel_rfl) hi5 hz1 hz2 hz3 rfl (by omega) u6 (allM l k ++ (vs ++ List.replicate (z - vs.length) 0)).length (nums .u64 (allM l k ++ (vs ++ List.replicate (z - vs.length) 0))) rfl hown1 ⟨wr.heap.size, 0, none⟩ 1 1 [.int .u64 0] rfl rfl (World.news_of_block (cs := #[.int .u64 0]) (t := 45) (fr := (0, 0)) (blk_new wr _)) (by simp [Value.oneCell']) (by simp only [maxLen]; omega) (by omega) hks ?_))
                intro v' w2 hown2 hgrow _ hat2
                obtain ⟨j1, _, j3⟩ := ap_step hkz hA hownz hgrow (by simpa using hat2)
                have hf := OU.snoc (xs := allM l k ++ (vs ++ List.replicate (z - vs.length) 0)) (ys := [0]) (by rw [hzl]; exact hown2) rfl
                rw [List.append_assoc, List.append_assoc, show List.replicate (z - vs.length) (0 : Int) ++ [0] = List.replicate (z + 1 - vs.length) 0 by rw [show z + 1 - vs.length = (z - vs.length) + 1 by omega, List.replicate_succ']] at hf
                have hb2 := j3 _ _ _ hbz (by decide)
                have HF := Lib.hid (And.intro hf (And.intro j1 hb2))
                clear hcz hcz1 hownz hown1 hown2 hgrow hat2 hA j1 j3 hf hb2 hbz hkz
                go_wp2_with fail
                go_roundw
                case rel => exact ⟨z + 1, by omega, by omega, by go_num, HF.out.1, HF.out.2.1, HF.out.2.2⟩
                case measure => simp [intOf]; omega
              · obtain rfl : z = 8 * N := by omega
                have hzi : ¬ (((8 * N : Nat) : Int) < 8 * (N : Int)) := by omega
                go_wp2_with fail
                go_roundw
                case rel => exact ⟨k + 1, h, by go_num, fun j hj hjk => by
                  by_cases e : j = k
                  · subst e; exact HV.out.1
                  · exact HR.out.1.ok j hj (by omega), by rw [HR.out.2.1, HV.out.2]; exact hownz, hkz⟩
                case measure => simp [intOf]; omega
    · obtain rfl : k = l.length := by omega
      go_wp2_with fail
      go_ret2
      exact ⟨.yes ⟨hl40, hrf⟩, hrf.kp⟩
end Go.Proofs.YtdamippibpbjhaaGreatDoor

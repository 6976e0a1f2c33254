import Derived.Test.YtamkglgiaiejkaaGreatDoorYx05
import Derived.Test.YtamkglgiaiejkaaGreatDoorYx10
/-! Digits in memory: cut, held against each other, added. -/
namespace Go.Proofs.YtamkglgiaiejkaaGreatDoor
open Go.RowKit

/-- Digits that lie where a slice says. -/
def MagV (w : World) (v : Value) (l : List Nat) : Prop := ∃ A c, v = .slice A l.length c ∧ l.length ≤ c ∧ (0 < l.length → ∃ g o, A = some ⟨g, o, none⟩ ∧ Row w .u32 g o (natsI l))
theorem natsI_length (l : List Nat) : (natsI l).length = l.length := List.length_map _
theorem natsI_getD (l : List Nat) (j : Nat) : (natsI l).getD j 0 = ((l.getD j 0 : Nat) : Int) := by
  unfold natsI
  rw [List.getD_eq_getElem?_getD, List.getD_eq_getElem?_getD, List.getElem?_map]
  cases l[j]? <;> rfl
theorem MagV.keep {S : Nat → Prop} {w w' : World} {v : Value} {l : List Nat} (h : MagV w v l) (hk : Keep S w w') (hS : ∀ b, b < w.heap.size → ¬ S b) : MagV w' v l := by
  obtain ⟨A, c, rfl, h1, h2⟩ := h
  refine ⟨A, c, rfl, h1, fun h0 => ?_⟩
  obtain ⟨g, o, rfl, hr⟩ := h2 h0
  have hl := World.block_lt_of_cell? w _ (hr 0 (by rw [natsI_length]; exact h0))
  exact ⟨g, o, rfl, hr.keep hk (hS g hl)⟩
theorem MagV.take {w : World} {A : Option Addr} {c : Nat} {l : List Nat} (k : Nat) (hk : k ≤ l.length) (hc : l.length ≤ c) (h : 0 < l.length → ∃ g o, A = some ⟨g, o, none⟩ ∧ Row w .u32 g o (natsI l)) : MagV w (.slice A k c) (l.take k) := by
  have e : (l.take k).length = k := by rw [List.length_take, Nat.min_eq_left hk]
  refine ⟨A, c, by rw [e], by omega, fun h0 => ?_⟩
  obtain ⟨g, o, hA, hr⟩ := h (by omega)
  refine ⟨g, o, hA, fun j hj => ?_⟩
  rw [natsI_length, e] at hj
  have := hr j (by rw [natsI_length]; omega)
  rw [natsI_getD] at this ⊢
  rw [List.getD_eq_getElem?_getD, List.getElem?_take_of_lt hj, ← List.getD_eq_getElem?_getD]
  exact this

set_option maxRecDepth 100000 in
set_option maxHeartbeats 4000000 in
theorem trim34 (A : Option Addr) (c : Nat) (l : List Nat) (w : World) (hc : l.length ≤ c) (hr : 0 < l.length → ∃ g o, A = some ⟨g, o, none⟩ ∧ Row w .u32 g o (natsI l)) (hl : Digs l) (hlen : l.length ≤ 1000000) : Calls Tryz.prog 34 #[.slice A l.length c] w fun e w' => ∃ k, e = .returned (.slice A k c) ∧ k ≤ l.length ∧ l.take k = digs (val l) ∧ w' = w := by
  have HR := Lib.hid hr
  clear hr
  obtain ⟨n, hn⟩ : ∃ n, n = l.length := ⟨_, rfl⟩
  rw [← hn]
  have HN := Lib.hid hn
  have hn9 : n ≤ 1000000 := by omega
  have hnc : n ≤ c := by omega
  clear hn hlen hc
  go_enter Tryz.func34, Tryz.ntmps34
  go_wp2_with fail
  go_loopw [0] (fun t wr => ∃ k : Nat, k ≤ n ∧ t = .slice A k c ∧ wr = w ∧ val (l.take k) = val l) (fun t _ => match t with | .slice _ k _ => k | _ => 0)
  case atStart => exact ⟨n, Nat.le_refl _, rfl, rfl, by rw [HN.out, List.take_length]⟩
  case round =>
    obtain ⟨k, hk, rfl, rfl, hval⟩ := hrel
    have HV := Lib.hid hval
    clear hval
    cases k with
    | zero =>
      go_wp2_with fail
      go_ret
      exact ⟨0, rfl, Nat.zero_le _, trim_done hl 0 (Nat.zero_le _) HV.out (.inl rfl), rfl⟩
    | succ k =>
      obtain ⟨g, o, rfl, hrow⟩ := HR.out (by rw [← HN.out]; omega)
      have hcell := hrow k (by rw [natsI_length, ← HN.out]; omega)
      rw [natsI_getD] at hcell
      clear hrow
      have hkk : ((k + 1 : Nat) : Int) - 1 = (k : Int) := by omega
      obtain ⟨d, hd⟩ : ∃ d, d = l.getD k 0 := ⟨_, rfl⟩
      rw [← hd] at hcell
      have HD := Lib.hid hd
      clear hd
      by_cases h0 : d = 0
      · subst h0
        go_wp2_with fail
        go_roundw
        case rel =>
          have hkl : k < l.length := by rw [← HN.out]; omega
          exact ⟨k, by omega, rfl, trivial, val_take_zero l k hkl (by have := HD.out; rw [List.getD_eq_getElem?_getD, List.getElem?_eq_getElem hkl] at this; exact this.symm) HV.out⟩
        case measure => simp
      · have h0' : ((d : Int) == 0) = false := beq_eq_false_iff_ne.2 (by omega)
        go_wp2_with fail
        go_ret
        refine ⟨k + 1, rfl, hk, ?_, rfl⟩
        have hkl : k < l.length := by rw [← HN.out]; omega
        exact trim_done hl (k + 1) (by omega) HV.out (.inr ⟨by omega, by
          have := HD.out
          rw [List.getD_eq_getElem?_getD, List.getElem?_eq_getElem hkl] at this
          simp only [Nat.add_sub_cancel]
          intro e
          exact h0 (this.trans e)⟩)
/-- What is left of digits that are trimmed. -/
theorem MagV.trim {w : World} {A : Option Addr} {c k : Nat} {l : List Nat} (h : MagV w (.slice A l.length c) l) (hk : k ≤ l.length) (e : l.take k = digs (val l)) : MagV w (.slice A k c) (digs (val l)) := by
  obtain ⟨A', c', e1, h1, h2⟩ := h
  cases e1
  rw [← e]
  exact MagV.take k hk h1 h2
/-- How two numbers stand to each other. -/
def cmpI (a b : Nat) : Int := if a < b then -1 else if b < a then 1 else 0
theorem cmpI_lt {a b : Nat} (h : a < b) : cmpI a b = -1 := if_pos h
theorem cmpI_gt {a b : Nat} (h : b < a) : cmpI a b = 1 := by unfold cmpI; rw [if_neg (by omega), if_pos h]
theorem cmpI_eq {a b : Nat} (h : a = b) : cmpI a b = 0 := by unfold cmpI; rw [if_neg (by omega), if_neg (by omega)]
theorem lt_of_getD {l m : List Nat} (hl : Digs l) (k : Nat) (hk : k < l.length) (hk' : k < m.length) (hd : l.drop (k + 1) = m.drop (k + 1)) (h : l.getD k 0 < m.getD k 0) : val l < val m := by
  rw [List.getD_eq_getElem?_getD, List.getD_eq_getElem?_getD, List.getElem?_eq_getElem hk, List.getElem?_eq_getElem hk'] at h
  exact lt_of_digit hl k hk hk' hd h
theorem drop_of_getD {l m : List Nat} (k : Nat) (hk : k < l.length) (hk' : k < m.length) (hd : l.drop (k + 1) = m.drop (k + 1)) (h : l.getD k 0 = m.getD k 0) : l.drop k = m.drop k := by
  rw [List.getD_eq_getElem?_getD, List.getD_eq_getElem?_getD, List.getElem?_eq_getElem hk, List.getElem?_eq_getElem hk'] at h
  have h : l[k] = m[k] := h
  rw [List.drop_eq_getElem_cons hk, List.drop_eq_getElem_cons hk', hd, h]
set_option maxRecDepth 100000 in
set_option maxHeartbeats 4000000 in
theorem magCmp38 (u v : Value) (a b : Nat) (w : World) (hu : MagV w u (digs a)) (hv : MagV w v (digs b)) (hla : (digs a).length ≤ 1000000) (hlb : (digs b).length ≤ 1000000) : Calls Tryz.prog 38 #[u, v] w fun e w' => e = .returned (.int .i64 (cmpI a b)) ∧ Keep (fun _ => False) w w' := by
  obtain ⟨A, c, rfl, hc, hr⟩ := hu
  obtain ⟨B, d, rfl, hd, hs⟩ := hv
  have HR := Lib.hid (And.intro hr hs)
  clear hr hs
  have HA := Lib.hid (And.intro (digs_digs a) (digs_digs b))
  have HLT := Lib.hid (And.intro (fun h => lt_of_length (a := a) (b := b) h) (fun h => lt_of_length (a := b) (b := a) h))
  have HVA := Lib.hid (And.intro (val_digs a) (val_digs b))
  generalize digs a = la at *
  generalize digs b = lb at *
  obtain ⟨n, hn⟩ : ∃ n, n = la.length := ⟨_, rfl⟩
  obtain ⟨m, hm⟩ : ∃ m, m = lb.length := ⟨_, rfl⟩
  rw [← hn] at hla hc ⊢
  rw [← hm] at hlb hd ⊢
  have HN := Lib.hid (And.intro hn hm)
  clear hn hm
  by_cases hnm : n = m
  · subst hnm
    go_enter Tryz.func38, Tryz.ntmps38
    go_wp2_with fail
    go_loopw [5] (fun t wr => ∃ k : Nat, k ≤ n ∧ t = .int .i64 ((k : Int) - 1) ∧ Keep (fun _ => False) w wr ∧ la.drop k = lb.drop k) (fun t _ => (intOf t + 1).toNat)
    case atStart => exact ⟨n, Nat.le_refl _, by go_num, Keep.refl _ _, by rw [HN.out.1, List.drop_length, ← HN.out.1, HN.out.2, List.drop_length]⟩
    case round =>
      obtain ⟨k, hk, rfl, hkr, hdrop⟩ := hrel
      have HV := Lib.hid hdrop
      clear hdrop
      cases k with
      | zero =>
        go_wp2_with fail
        go_ret
        have e : la = lb := HV.out
        rw [cmpI_eq (by rw [← HVA.out.1, ← HVA.out.2, e])]
        exact ⟨rfl, hkr⟩
      | succ k =>
        obtain ⟨g, o, rfl, hrow⟩ := HR.out.1 (by rw [← HN.out.1]; omega)
        obtain ⟨g', o', rfl, hrow'⟩ := HR.out.2 (by rw [← HN.out.2]; omega)
        have hcell := (hrow.keep hkr (fun h => h)) k (by rw [natsI_length, ← HN.out.1]; omega)
        have hcell' := (hrow'.keep hkr (fun h => h)) k (by rw [natsI_length, ← HN.out.2]; omega)
        rw [natsI_getD] at hcell hcell'
        clear hrow hrow'
        have hkk : ((k + 1 : Nat) : Int) - 1 = (k : Int) := by omega
        have hk0 : (0 : Int) ≤ (k : Int) := by omega
        have hkn : (k : Int) < (n : Int) := by omega
        obtain ⟨x, hx⟩ : ∃ x, x = la.getD k 0 := ⟨_, rfl⟩
        obtain ⟨y, hy⟩ : ∃ y, y = lb.getD k 0 := ⟨_, rfl⟩
        rw [← hx] at hcell
        rw [← hy] at hcell'
        have HD := Lib.hid (And.intro hx hy)
        clear hx hy
        rw [hkk]
        by_cases h1 : (x : Int) < (y : Int)
        · go_wp2_with fail
          go_quiet (fail)
          go_wp2_with fail
          go_ret
          have h := lt_of_getD HA.out.1 k (by rw [← HN.out.1]; omega) (by rw [← HN.out.2]; omega) HV.out (by rw [← HD.out.1, ← HD.out.2]; omega)
          rw [HVA.out.1, HVA.out.2] at h
          rw [cmpI_lt h]
          exact ⟨rfl, hkr.drewN _⟩
        · by_cases h2 : (y : Int) < (x : Int)
          · go_wp2_with fail
            go_quiet (fail)
            go_wp2_with fail
            go_quiet (fail)
            go_wp2_with fail
            go_ret
            have h := lt_of_getD HA.out.2 k (by rw [← HN.out.2]; omega) (by rw [← HN.out.1]; omega) HV.out.symm (by rw [← HD.out.1, ← HD.out.2]; omega)
            rw [HVA.out.1, HVA.out.2] at h
            rw [cmpI_gt h]
            exact ⟨rfl, (hkr.drewN _).drewN _⟩
          · go_wp2_with fail
            go_quiet (fail)
            go_wp2_with fail
            go_quiet (fail)
            go_wp2_with fail
            go_roundw
            case rel => exact ⟨k, by omega, by go_num, hkr.drewN _, drop_of_getD k (by rw [← HN.out.1]; omega) (by rw [← HN.out.2]; omega) HV.out (by rw [← HD.out.1, ← HD.out.2]; omega)⟩
            case measure => simp [intOf]
  · have hnm' : ((n : Int) != (m : Int)) = true := by simp; omega
    by_cases h : (n : Int) < (m : Int)
    · go_enter Tryz.func38, Tryz.ntmps38
      go_wp2_with fail
      go_ret
      rw [cmpI_lt (HLT.out.1 (by rw [← HN.out.1, ← HN.out.2]; omega))]
      exact ⟨rfl, Keep.refl _ _⟩
    · go_enter Tryz.func38, Tryz.ntmps38
      go_wp2_with fail
      go_ret
      rw [cmpI_gt (HLT.out.2 (by rw [← HN.out.1, ← HN.out.2]; omega))]
      exact ⟨rfl, Keep.refl _ _⟩
end Go.Proofs.YtamkglgiaiejkaaGreatDoor

import Derived.Test.YtamkglgiaiejkaaGreatDoorYx16
import Derived.Test.YtamkglgiaiejkaaGreatDoorYx10
import Derived.Laws.MakeOwn
/-! Digits are multiplied. -/
namespace Go.Proofs.YtamkglgiaiejkaaGreatDoor
open Go.RowKit

theorem make_small {t e : TypeId} {z : Value} {b : Nat} (ht : Tryz.prog.underlying t = some (.slice e)) (hinfo : (Tryz.prog.info? e).map (fun i => (i.zero, i.size, i.bytes)) = some (some z, 1, b)) (hz1 : z.cells = #[z]) (hb : b ≤ 8) (n : Nat) (hn : n ≤ 1000000) (w : World) :
    (Instr.makeSlice t (.int .i64 n) (.int .i64 n)).run Tryz.prog w = .ok (.slice (some ⟨w.heap.size, 0, none⟩) n n) (w.alloc (.cells (madeCells #[z] n) e)) := by
  obtain ⟨i, hi, hzz⟩ := Option.map_eq_some_iff.1 hinfo
  simp only [Prod.mk.injEq] at hzz
  obtain ⟨hz, hs, hb'⟩ := hzz
  have h1 : (i.bytes : Int) * (n : Int) ≤ 281474976710656 := by
    have h2 : i.bytes * n ≤ 8 * 1000000 := Nat.mul_le_mul (by omega) hn
    have h3 : ((i.bytes * n : Nat) : Int) ≤ ((8 * 1000000 : Nat) : Int) := Int.ofNat_le.2 h2
    rw [Int.natCast_mul] at h3
    omega
  have h := run_make (P := Tryz.prog) w t e i z ht hi hz .i64 .i64 n n (by omega) (by omega) h1 (by omega)
  simpa [hs, hz1] using h
theorem made_list (z : Value) (n : Nat) : (madeCells #[z] n).toList = List.replicate n z := by
  simp only [madeCells, Array.toList_map, Array.toList_range]
  apply List.ext_getElem
  · simp
  · intro i h1 h2
    simp at h1
    simp [Nat.mod_one]
/-- Digits that are made: all of them zero. -/
theorem OD.made (w : World) (n : Nat) (hn : n ≤ 1000000) : OD (w.alloc (.cells (madeCells #[.int .u32 0] n) 65)) w.heap.size (.slice (some ⟨w.heap.size, 0, none⟩) n n) (List.replicate n 0) := by
  unfold OD
  rw [List.length_replicate]
  refine ⟨by simp [nums, natsI], .inr ⟨w.heap.size, n, _, rfl, Nat.le_refl _, blk_new w _, Nat.le_refl _, by simp only [maxLen]; omega, by simp [size_madeCells], ?_⟩⟩
  rw [made_list]
  simp [nums, natsI]

theorem OD.blk {w : World} {base q n c : Nat} {l : List Nat} (h : OD w base (.slice (some ⟨q, 0, none⟩) n c) l) : base ≤ q ∧ ∃ cur, w.heap[q]? = some (.cells cur 65 (0, 0)) := by
  obtain ⟨_, h1, _, cur, h2, _⟩ := h.open
  exact ⟨h1, cur, h2⟩
theorem OD.put' {w : World} {base q c s : Nat} {l : List Nat} (h : OD w base (.slice (some ⟨q, 0, none⟩) s c) l) (hl : l.length = s) (k d : Nat) : OD (w.setCell ⟨q, k, none⟩ (.int .u32 d)) base (.slice (some ⟨q, 0, none⟩) s c) (l.set k d) := by
  subst hl
  exact OD.put h k d
theorem OD.drewN {w : World} {base : Nat} {v : Value} {l : List Nat} (h : OD w base v l) (n : Nat) : OD (w.drewN n) base v l := h.keep ((Keep.refl (fun _ => False) w).drewN n) (fun _ _ h => h)
/-- Digits are trimmed. -/
theorem trim_mag (A : Option Addr) (s c : Nat) (l : List Nat) (w : World) (h : MagV w (.slice A s c) l) (hs : l.length = s) (hl : Digs l) (h9 : s ≤ 1000000) : Calls Tryz.prog 34 #[.slice A s c] w fun e w' => ∃ k, e = .returned (.slice A k c) ∧ MagV w (.slice A k c) (digs (val l)) ∧ w' = w := by
  subst hs
  have h' := h
  obtain ⟨A', c', he, hc', hr'⟩ := h
  cases he
  refine (trim34 A c l w hc' hr' hl h9).mono ?_
  rintro e w4 ⟨j, rfl, hj, hjd, rfl⟩
  exact ⟨j, rfl, h'.trim hj hjd, rfl⟩
set_option maxRecDepth 100000 in
set_option maxHeartbeats 4000000 in
theorem magMul22 (u v : Value) (la lb : List Nat) (w : World) (hu : MagV w u la) (hv : MagV w v lb) (hla : Digs la) (hlb : Digs lb) (hla9 : la.length ≤ 10000) (hlb9 : lb.length ≤ 10000) : Calls Tryz.prog 22 #[u, v] w fun e w' => ∃ x, e = .returned x ∧ MagV w' x (digs (val la * val lb)) ∧ Keep (fun _ => False) w w' := by
  have HU := Lib.hid (And.intro hu hv)
  obtain ⟨A, ca, rfl, _, _⟩ := hu
  obtain ⟨B, cb, rfl, _, _⟩ := hv
  obtain ⟨n, hn⟩ : ∃ n, n = la.length := ⟨_, rfl⟩
  obtain ⟨m, hm⟩ : ∃ m, m = lb.length := ⟨_, rfl⟩
  rw [← hn] at hla9 HU ⊢
  rw [← hm] at hlb9 HU ⊢
  have HN := Lib.hid (And.intro hn hm)
  clear hn hm
  obtain ⟨s, hs⟩ : ∃ s, s = n + m := ⟨_, rfl⟩
  have hmk : (Instr.makeSlice 27 (.int .i64 ((n : Int) + (m : Int))) (.int .i64 ((n : Int) + (m : Int)))).run Tryz.prog w = .ok (.slice (some ⟨w.heap.size, 0, none⟩) s s) (w.alloc (.cells (madeCells #[.int .u32 0] s) 65)) := by
    rw [show (n : Int) + (m : Int) = (s : Int) by omega]
    exact make_small (t := 27) (e := 65) (by kernel_rfl) info65 rfl (by omega) s (by omega) w
  have hod := OD.made w s (by omega)
  have hk0 : Keep (fun _ => False) w (w.alloc (.cells (madeCells #[.int .u32 0] s) 65)) := (Keep.refl _ w).alloc _
  have HS := Lib.hid hs
  clear hs
  go_enter Tryz.func22, Tryz.ntmps22
  go_wp2_with fail
  obtain ⟨q, hq⟩ : ∃ q, q = w.heap.size := ⟨_, rfl⟩
  rw [← hq] at hod hmk ⊢
  have HK := Lib.hid (And.intro hk0 (And.intro hod hq))
  clear hk0 hod hmk hq
  generalize w.alloc (.cells (madeCells #[.int .u32 0] s) 65) = w0 at *
  go_loopw [17] (fun i wr => ∃ (k : Nat) (o : List Nat), i = .int .i64 k ∧ k ≤ n ∧ o.length = s ∧ OD wr q (.slice (some ⟨q, 0, none⟩) s s) o ∧ Digs o ∧ val o = val (la.take k) * val lb ∧ (∀ j, k + m ≤ j → o.getD j 0 = 0) ∧ Keep (fun _ => False) w wr) (fun i _ => n - (intOf i).toNat)
  case atStart => exact ⟨0, List.replicate s 0, rfl, by omega, by simp, HK.out.2.1, fun d hd => (by rw [List.eq_of_mem_replicate hd]; decide), by rw [val_replicate]; simp [val], fun j _ => getD_replicate s j, HK.out.1⟩
  case round =>
    obtain ⟨k, o, rfl, hkn, hol, hod, hdo, hval, hz, hk⟩ := hrel
    have HH := Lib.hid (And.intro hol (And.intro hod (And.intro hdo (And.intro hval hz))))
    clear hol hod hdo hval hz
    by_cases hend : k < n
    · obtain ⟨x, hx⟩ : ∃ x, x = la.getD k 0 := ⟨_, rfl⟩
      have hx9 : x < 4294967296 := by rw [hx]; exact getD_lt hla k
      have hkk : (k : Int) < (n : Int) := by omega
      have hk0 : (0 : Int) ≤ (k : Int) := by omega
      have HX := Lib.hid hx
      clear hx
      go_wp2_with fail
      go_loopw [7, 22] (fun c i wr2 => ∃ (c' j : Nat) (o2 : List Nat), c = .int .u64 c' ∧ i = .int .i64 j ∧ j ≤ m ∧ c' < 4294967296 ∧ o2.length = s ∧ OD wr2 q (.slice (some ⟨q, 0, none⟩) s s) o2 ∧ Digs o2 ∧ val o2 + c' * 4294967296 ^ (k + j) = val o + 4294967296 ^ k * (x * val (lb.take j)) ∧ (∀ i, k + m ≤ i → o2.getD i 0 = 0) ∧ Keep (fun _ => False) w wr2) (fun _ i _ => m - (intOf i).toNat)
      case atStart => exact ⟨0, 0, o, rfl, rfl, by omega, by omega, HH.out.1, HH.out.2.1, HH.out.2.2.1, by simp [val], HH.out.2.2.2.2, hk⟩
      case round =>
        obtain ⟨c, j, o2, rfl, rfl, hjm, hc9, hol, hod, hdo, hval, hz, hk2⟩ := hrel
        have HI := Lib.hid (And.intro hol (And.intro hod (And.intro hdo (And.intro hval hz))))
        obtain ⟨hqb, cur, hg⟩ := hod.blk
        have hf := blk_frozen hg
        clear hol hod hdo hval hz hg
        by_cases hj : j < m
        · obtain ⟨y, hy⟩ : ∃ y, y = lb.getD j 0 := ⟨_, rfl⟩
          obtain ⟨z, hz⟩ : ∃ z, z = o2.getD (k + j) 0 := ⟨_, rfl⟩
          have hy9 : y < 4294967296 := by rw [hy]; exact getD_lt hlb j
          have hz9 : z < 4294967296 := by rw [hz]; exact getD_lt HI.out.2.2.1 _
          have hjj : (j : Int) < (m : Int) := by omega
          have hj0 : (0 : Int) ≤ (j : Int) := by omega
          have hps : k + j < s := by have := HS.out; omega
          have hps' : (k : Int) + (j : Int) < (s : Int) := by omega
          have hp0 : (0 : Int) ≤ (k : Int) + (j : Int) := by omega
          have hpn : ((k : Int) + (j : Int)).toNat = k + j := by omega
          obtain ⟨g1, o1, rfl, hcell1⟩ := (HU.out.1.keep hk2 (fun _ _ h => h)).cell k (by rw [← HN.out.1]; omega)
          obtain ⟨g2, o2', rfl, hcell2⟩ := (HU.out.2.keep hk2 (fun _ _ h => h)).cell j (by rw [← HN.out.2]; omega)
          obtain ⟨q', o', hqe, hcell3⟩ := HI.out.2.1.mag.cell (k + j) (by rw [HI.out.1]; exact hps)
          cases hqe
          rw [← HX.out] at hcell1
          rw [← hy] at hcell2
          rw [← hz, Nat.zero_add] at hcell3
          obtain ⟨m1, m2, m3, m4⟩ := mul_bound hc9 hx9 hy9 hz9
          obtain ⟨t1, ht1⟩ : ∃ t1, t1 = x * y := ⟨_, rfl⟩
          rw [← ht1] at m1 m2 m3 m4
          obtain ⟨t2, ht2⟩ : ∃ t2, t2 = t1 + z := ⟨_, rfl⟩
          rw [← ht2] at m1 m2 m3
          obtain ⟨t, ht⟩ : ∃ t, t = c + t2 := ⟨_, rfl⟩
          rw [← ht] at m2 m3
          obtain ⟨dd, hd⟩ : ∃ dd, dd = t % 4294967296 := ⟨_, rfl⟩
          obtain ⟨c', hc'⟩ : ∃ c', c' = t / 4294967296 := ⟨_, rfl⟩
          have w0 : IntKind.u64.wrap ((x : Int) * (y : Int)) = (t1 : Int) := by rw [ht1, IntKind.wrap_u64, ← Int.natCast_mul, ← ht1]; omega
          have w1 : IntKind.u64.wrap ((t1 : Int) + (z : Int)) = (t2 : Int) := by rw [IntKind.wrap_u64]; omega
          have w2 : IntKind.u64.wrap ((c : Int) + (t2 : Int)) = (t : Int) := by rw [IntKind.wrap_u64]; omega
          have w3 : IntKind.u32.wrap (t : Int) = (dd : Int) := by rw [IntKind.wrap_u32]; omega
          have w4 : (t : Int) / 4294967296 = (c' : Int) := by omega
          have w5 : IntKind.u64.wrap (x : Int) = (x : Int) := by rw [IntKind.wrap_u64]; omega
          have w6 : IntKind.u64.wrap (y : Int) = (y : Int) := by rw [IntKind.wrap_u64]; omega
          have w7 : IntKind.u64.wrap (z : Int) = (z : Int) := by rw [IntKind.wrap_u64]; omega
          have hd9 : dd < 4294967296 := by omega
          have hc9' : c' < 4294967296 := by omega
          have hstep : val (o2.set (k + j) dd) + c' * 4294967296 ^ (k + j + 1) = val o + 4294967296 ^ k * (x * val (lb.take j)) + 4294967296 ^ (k + j) * (x * y) := by
            have := mul_step (o := o2) (j := k + j) (c := c) (x := x) (y := y) (t := t) (by rw [HI.out.1]; exact hps) HI.out.2.2.2.1 (by rw [← hz, ← ht1, ← ht2, ht])
            rw [hd, hc']
            exact this
          have hstep' : val (o2.set (k + j) dd) + c' * 4294967296 ^ (k + (j + 1)) = val o + 4294967296 ^ k * (x * val (lb.take (j + 1))) := by
            rw [val_take_getD, ← hy, ← Nat.add_assoc, hstep, Nat.mul_add x, Nat.mul_add (4294967296 ^ k), Nat.add_assoc, Nat.mul_left_comm x, ← Nat.mul_assoc (4294967296 ^ k) (4294967296 ^ j), ← Nat.pow_add]
          have HF := Lib.hid (And.intro hstep' (And.intro hd9 (And.intro hc9' hqb)))
          clear hstep hstep' ht1 ht2 ht hd hc' hy hz m1 m2 m3 m4
          go_wp2_with fail
          go_quiet (fail)
          go_wp2_with fail
          go_roundw
          case rel => exact ⟨c', j + 1, o2.set (k + j) dd, rfl, by go_num, by omega, HF.out.2.2.1, by rw [List.length_set]; exact HI.out.1, OD.put' (OD.drewN HI.out.2.1 _) HI.out.1 _ _, HI.out.2.2.1.set _ _ HF.out.2.1, HF.out.1, fun i hi => by rw [getD_set_ne (by omega)]; exact HI.out.2.2.2.2 i hi, (hk2.drewN _).setCell (p := ⟨q, k + j, none⟩) (.inr (by rw [HK.out.2.2]; exact Nat.le_refl _)) _⟩
          case measure => simp [intOf]; omega
        · obtain rfl : j = m := by omega
          have w3 : IntKind.u32.wrap (c : Int) = (c : Int) := by rw [IntKind.wrap_u32]; omega
          have hps : k + j < s := by have := HS.out; omega
          have hps' : (k : Int) + (j : Int) < (s : Int) := by omega
          have hp0 : (0 : Int) ≤ (k : Int) + (j : Int) := by omega
          have hpn : ((k : Int) + (j : Int)).toNat = k + j := by omega
          obtain ⟨q', o', hqe, hcell3⟩ := HI.out.2.1.mag.cell (k + j) (by rw [HI.out.1]; exact hps)
          cases hqe
          rw [Nat.zero_add] at hcell3
          go_wp2_with fail
          go_roundw
          case rel => exact ⟨k + 1, o2.set (k + j) c, by go_num, by omega, by rw [List.length_set]; exact HI.out.1, OD.put' HI.out.2.1 HI.out.1 _ _, HI.out.2.2.1.set _ _ hc9, by
            have h1 := mul_last (o := o2) (j := k + j) (c := c) (by rw [HI.out.1]; exact hps) HI.out.2.2.2.1 (HI.out.2.2.2.2 _ (Nat.le_refl _))
            rw [h1, HH.out.2.2.2.1, val_take_getD, ← HX.out, val_take_all lb j (by rw [← HN.out.2]; exact Nat.le_refl _), Nat.add_mul, Nat.mul_assoc], fun i hi => by rw [getD_set_ne (by omega)]; exact HI.out.2.2.2.2 i (by omega), hk2.setCell (p := ⟨q, k + j, none⟩) (.inr (by rw [HK.out.2.2]; exact Nat.le_refl _)) _⟩
          case measure => simp [intOf]; omega
    · obtain rfl : k = n := by omega
      obtain ⟨e1, e2, e3, e4, _⟩ := HH.out
      rw [val_take_all la k (by rw [← HN.out.1]; exact Nat.le_refl _)] at e4
      have HT := Lib.hid (trim_mag (some ⟨q, 0, none⟩) s s o wr e2.mag e1 e3 (by have := HS.out; omega))
      rw [e4] at HT
      clear e2 e1 e3 e4 HH
      go_wp2_with fail
      refine HT.out.mono ?_
      rintro e w4 ⟨j, rfl, hm, rfl⟩
      go_wp2_with fail
      go_ret
      exact ⟨_, rfl, hm, hk⟩
end Go.Proofs.YtamkglgiaiejkaaGreatDoor

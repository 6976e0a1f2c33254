import Derived.Test.YtdamippibpbjhaaGreatDoorYa20
import Derived.Test.YtdamippibpbjhaaGreatDoorYa31
import Derived.Test.YtdamippibpbjhaaGreatDoorYa32
/-! A decoder begins a block: numbers of 32 bits. (Written by tools/d32.py.) -/
namespace Go.Proofs.YtdamippibpbjhaaGreatDoor
open Go.RowKit

theorem wrap32_bounds (x : Int) : -2147483648 ≤ IntKind.i32.wrap x ∧ IntKind.i32.wrap x ≤ 2147483647 := by rw [IntKind.wrap_i32]; omega
theorem init32 {E : Env} {db mb : Nat} {y : Way} {l : List Int} (Y : Lay E.D y l) (O : Nat → Prop) (et : TypeId) (k : Nat) (d : DV) (mc : Array Value) (w : World) (hW : E.Wf) (hA : Apart E db mb) (hy : y.Wf) (hM : y.M ≤ 32) (hS : y.S ≤ 1024) (hW32 : y.W = 32)
    (hk : k * y.S + 1 < l.length) (hdc : Dc E mb y d) (hsd : SD E 218 db mb d mc true (Y.P k) w) (hwb : WB E db mb y.M mc w) (hlv : d.lv = Y.acc (k * y.S)) (hcmv : d.cmv = 0)
    (hmv : ∀ dd, (w.heap.size ≤ dd ∨ WOwn mc dd) → MvIn E et db mb dd y.n d.mv w) (hdb : ∀ dd, (w.heap.size ≤ dd ∨ WOwn mc dd) → DbIn E db mb dd y.n d.db w)
    (hodd : ∀ dd, WOwn mc dd → O dd) (homv : ∀ b, MOwn d.mv b → O b) (hodb : ∀ b, MOwn d.db b → O b)
    (hxo : ∀ b, MOwn d.mv b ∨ MOwn d.db b → b ≠ db ∧ b ≠ E.b ∧ b ≠ mb ∧ ¬ WOwn mc b) :
    Calls Tryz.prog 113 #[.pointer (some ⟨db, 0, none⟩)] w fun e w' => e = .returned .nilIface ∧ Keep (fun b => b = db ∨ b = E.b ∨ b = mb ∨ WOwn mc b) w w' ∧
      ∃ d' mc' dd, S1 E 218 et db mb Y (fun b => O b ∨ w.heap.size ≤ b ∧ b < w'.heap.size) k 0 d' mc' dd w' ∧ d'.nv = d.nv ∧ d'.used = d.used := by
  obtain ⟨hl, hz, hlen, hbp⟩ := Y.leb k hk
  obtain ⟨t, _, hmd⟩ := Y.range k hk
  have hz32 := wrap32_bounds (l.getD (t + 1) 0 - l.getD t 0)
  rw [show IntKind.i32.wrap (l.getD (t + 1) 0 - l.getD t 0) = unzz (Y.z k) from by rw [hz, hmd, hW32]; rfl] at hz32
  refine (initBlock32 E db mb y.M (Y.P k) (Y.nz k) (Y.z k) d mc w hW hA hsd hwb hdc.bd hdc.mbp hdc.mpb hy.M0 hM (by rw [hdc.bs]; omega) hl (by omega) hz32.1 hz32.2).mono ?_
  rintro e w' ⟨rfl, hK, mc', dd, hsd', hwb', hdd⟩
  refine ⟨rfl, hK, { d with md := unzz (Y.z k), mi := 0, bw := E.D.getD (Y.P k + Y.nz k + 1) 0, cb := d.bs }, mc', dd, ⟨⟨hdc.bd, hdc.mbp, hdc.bs, hdc.mpb, hdc.vpm⟩, by rw [hbp]; exact hsd', hwb', hz, rfl, by simpa using hlv, by simpa using hdc.bs, hcmv, ?_, ?_, ?_, fun b hb => .inl (homv b hb), fun b hb => .inl (hodb b hb)⟩, rfl, rfl⟩
  · refine (hmv dd hdd).keep hK fun b hb => ?_
    obtain ⟨h1, h2, h3, h4⟩ := hxo b (.inl hb)
    rintro (h | h | h | h)
    · exact h1 h
    · exact h2 h
    · exact h3 h
    · exact h4 h
  · refine (hdb dd hdd).keep hK fun b hb => ?_
    obtain ⟨h1, h2, h3, h4⟩ := hxo b (.inr hb)
    rintro (h | h | h | h)
    · exact h1 h
    · exact h2 h
    · exact h3 h
    · exact h4 h
  · rcases hdd with h | h
    · obtain ⟨_, ⟨cs, hcs, _⟩, _⟩ := hwb'
      exact .inr ⟨h, blk_lt hcs⟩
    · exact .inl (hodd dd h)
theorem S0.init32 {E : Env} {db mb : Nat} {y : Way} {l : List Int} {Y : Lay E.D y l} {O : Nat → Prop} (et : TypeId) {d : DV} {mc : Array Value} {w : World} (h : S0 E 218 db mb Y d mc w) (hW : E.Wf) (hA : Apart E db mb) (hy : y.Wf) (hM : y.M ≤ 32) (hS : y.S ≤ 1024) (hW32 : y.W = 32)
    (hk : 1 < l.length) (od : O db) (ob : O E.b) (om : O mb) :
    Calls Tryz.prog 113 #[.pointer (some ⟨db, 0, none⟩)] w fun e w' => e = .returned .nilIface ∧ Keep O w w' ∧
      ∃ d' mc' dd, S1 E 218 et db mb Y (fun b => O b ∨ w.heap.size ≤ b ∧ b < w'.heap.size) 0 0 d' mc' dd w' ∧ d'.nv = d.nv ∧ d'.used = d.used := by
  have hno : ∀ dd, WOwn mc dd → False := fun dd hd => by rw [h.wb] at hd; exact wOwn_none hd
  have hn1 : ∀ b, MOwn d.mv b → False := fun b hb => by obtain ⟨n, c, hb⟩ := hb; rw [h.mv] at hb; cases hb
  have hn2 : ∀ b, MOwn d.db b → False := fun b hb => by obtain ⟨n, c, hb⟩ := hb; rw [h.db'] at hb; cases hb
  refine (YtdamippibpbjhaaGreatDoor.init32 Y O et 0 d mc w hW hA hy hM hS hW32 (by omega) h.dc h.sd (.inl h.wb) (by simpa using h.lv) h.cmv (fun _ _ => .inl h.mv) (fun _ _ => .inl h.db') (fun dd hd => (hno dd hd).elim) (fun b hb => (hn1 b hb).elim) (fun b hb => (hn2 b hb).elim)
    (fun b hb => by rcases hb with hb | hb; exact (hn1 b hb).elim; exact (hn2 b hb).elim)).mono ?_
  rintro e w' ⟨he, hK, hx⟩
  refine ⟨he, hK.mono ?_, hx⟩
  rintro b (rfl | rfl | rfl | hb)
  · exact od
  · exact ob
  · exact om
  · exact (hno b hb).elim
theorem S2.init32 {E : Env} {et : TypeId} {enc : Int → Value} {db mb : Nat} {y : Way} {l : List Int} {Y : Lay E.D y l} {O : Nat → Prop} {k j i : Nat} {d : DV} {mc : Array Value} {dd x : Nat} {w : World} (h : S2 E 218 et enc db mb Y O k j i d mc dd x w) (hW : E.Wf) (hA : Apart E db mb) (hy : y.Wf) (hM : y.M ≤ 32) (hS : y.S ≤ 1024) (hW32 : y.W = 32)
    (hj : j + 1 = y.M) (hi : i = y.n) (hk : (k + 1) * y.S + 1 < l.length) (od : O db) (ob : O E.b) (om : O mb) :
    Calls Tryz.prog 113 #[.pointer (some ⟨db, 0, none⟩)] w fun e w' => e = .returned .nilIface ∧ Keep O w w' ∧
      ∃ d' mc' dd, S1 E 218 et db mb Y (fun b => O b ∨ w.heap.size ≤ b ∧ b < w'.heap.size) (k + 1) 0 d' mc' dd w' ∧ d'.nv = d.nv ∧ d'.used = d.used := by
  obtain ⟨xs, hx, hxn, _⟩ := h.row
  have hxl := blk_lt hx
  have hwo : ∀ dd', WOwn mc dd' → dd' = dd := fun dd' hd => by rw [h.wb.1] at hd; exact wOwn_eq hd
  have hmx : ∀ b, MOwn d.mv b → b = x := fun b hb => by obtain ⟨n, c, hb⟩ := hb; rw [h.mv] at hb; cases hb; rfl
  obtain ⟨f1, f2, f3, f4, f5, f6, f7⟩ := h.far
  refine (YtdamippibpbjhaaGreatDoor.init32 Y O et (k + 1) d mc w hW hA hy hM hS hW32 hk h.dc (by rw [Y.next k hk, ← hj]; exact h.sd) h.wb.wb ?_ (by rw [h.cmv, hi]; omega)
    (fun dd' hd => .inr ⟨x, xs, h.mv, hx, hxn, f1, f2, f3, f4, f5, f6, by rcases hd with hd | hd; omega; rw [hwo dd' hd]; exact f7⟩)
    (fun dd' hd => ?_) (fun dd' hd => by rw [hwo dd' hd]; exact h.odd) (fun b hb => by rw [hmx b hb]; exact h.ox) h.odb (fun b hb => ?_)).mono ?_
  · rw [h.lv]
    congr 1
    rw [hy.S, ← hj, Nat.add_mul k 1, Nat.one_mul, Nat.add_mul j 1, Nat.one_mul]
    omega
  · rcases h.db' with hd' | ⟨ob', cs, h1, h2, h3, g1, g2, g3, g4, g5, g6, g7⟩
    · exact .inl hd'
    · have := blk_lt h2
      exact .inr ⟨ob', cs, h1, h2, h3, g1, g2, g3, g4, g5, g6, by rcases hd with hd | hd; omega; rw [hwo dd' hd]; exact g7⟩
  · rcases hb with hb | hb
    · rw [hmx b hb]
      exact ⟨f5, f1, f6, fun h' => f7 (hwo _ h')⟩
    · rcases h.db' with hd' | ⟨ob', cs, h1, h2, h3, g1, g2, g3, g4, g5, g6, g7⟩
      · obtain ⟨n, c, hb⟩ := hb; rw [hd'] at hb; cases hb
      · obtain ⟨n, c, hb⟩ := hb
        rw [h1] at hb
        cases hb
        exact ⟨g5, g1, g6, fun h' => g7 (hwo _ h')⟩
  · rintro e w' ⟨he, hK, hx⟩
    refine ⟨he, hK.mono ?_, hx⟩
    rintro b (rfl | rfl | rfl | hb)
    · exact od
    · exact ob
    · exact om
    · rw [hwo b hb]; exact h.odd
end Go.Proofs.YtdamippibpbjhaaGreatDoor

/-! A decoder unpacks the next part: numbers of 32 bits. (Written by tools/d32.py.) -/
namespace Go.Proofs.YtdamippibpbjhaaGreatDoor
open Go.RowKit

theorem S1.mini32 {E : Env} {db mb : Nat} {y : Way} {l : List Int} {Y : Lay E.D y l} {O : Nat → Prop} {k j : Nat} {d : DV} {mc : Array Value} {dd : Nat} {w : World} (h : S1 E 218 21 db mb Y O k j d mc dd w) (hW : E.Wf) (hA : Apart E db mb) (hy : y.Wf) (hW32 : y.W ≤ 32) (hM : y.M ≤ 32)
    (hn : 32 ≤ y.n ∧ y.n ≤ 1024 ∧ y.n % 32 = 0) (hj : j < y.M) (hN : k * y.S + j * y.n + 1 < l.length) (h0 : -9223372036854775808 ≤ l.getD 0 0 ∧ l.getD 0 0 < 9223372036854775808) (od : O db) (ob : O E.b) (orb : O E.rb) :
    Calls Tryz.prog 114 #[.pointer (some ⟨db, 0, none⟩)] w fun e w' => e = .returned .nilIface ∧ Keep O w w' ∧
      ∃ d' x, S2 E 218 21 (fun v => .int .i32 (wrap32 v)) db mb Y (fun b => O b ∨ w.heap.size ≤ b ∧ b < w'.heap.size) k j 0 d' mc dd x w' ∧ d'.nv = d.nv ∧ d'.used = d.used := by
  have hk : k * y.S + 1 < l.length := by omega
  obtain ⟨hwd, hlen, hbp⟩ := Y.mini k j hN hj
  have hwid := Y.width k j hk hj
  obtain ⟨t, _, hmd⟩ := Y.range k hk
  have hmdb : -9223372036854775808 ≤ d.md ∧ d.md < 9223372036854775808 := by rw [h.md, hmd]; exact wrapW_bounds _
  obtain ⟨hl, _, hlen0, _⟩ := Y.leb k hk
  refine (YtdamippibpbjhaaGreatDoor.mini32 E db mb y.M dd (Y.P k + Y.nz k + 1) (Y.bp k j) j y.n (Y.wd k j) d mc w hW hA h.sd h.wb h.mv h.db' h.dc.bd h.dc.mbp h.dc.vpm hn h.mi hj hM (by omega) hwid (by omega) hmdb (by rw [h.lv]; exact Y.acc_bounds h0 _) hlen).mono ?_
  rintro e w' ⟨rfl, x, dbv', hK, hsd, hwb, hrow, hfar, hdb, hox, hodb⟩
  refine ⟨rfl, hK.mono ?_, { d with bw := Y.wd k j, cmv := y.n, mi := (j + 1 : Nat), lv := accR d.lv d.md (fun i => bitsAt E.D (8 * Y.bp k j + i * Y.wd k j) (Y.wd k j)) y.n, mv := .slice (some ⟨x, 0, none⟩) y.n y.n, db := dbv' }, x, ⟨⟨h.dc.bd, h.dc.mbp, h.dc.bs, h.dc.mpb, h.dc.vpm⟩, by rw [hbp]; exact hsd, hwb, h.md, rfl, ?_, by simpa using h.cb, by simp, rfl, ?_, hfar, hdb, .inl h.odd, ?_, fun b hb => ?_⟩, rfl, rfl⟩
  · rintro b (rfl | rfl | rfl | hb | hb)
    · exact ob
    · exact orb
    · exact od
    · exact h.omv b hb
    · exact h.odb b hb
  · rw [Y.acc_accR hy hj y.n (Nat.le_refl _), ← h.lv, ← h.md]
    rfl
  · obtain ⟨cs, h1, h2, h3⟩ := hrow
    refine ⟨cs, h1, h2, fun c hc => ?_⟩
    rw [h3 c hc, Y.acc_accR hy hj (c + 1) hc, ← h.lv, ← h.md]
    rfl
  · rcases hox with hx | hx
    · obtain ⟨cs, h1, _⟩ := hrow
      exact .inr ⟨hx, blk_lt h1⟩
    · exact .inl (h.omv x hx)
  · rcases hodb b hb with hx | hx
    · refine .inr ⟨hx, ?_⟩
      rcases hdb with hd | ⟨ob', cs, g1, g2, _⟩
      · obtain ⟨n, c, hb⟩ := hb; rw [hd] at hb; cases hb
      · obtain ⟨n, c, hb⟩ := hb
        rw [g1] at hb
        cases hb
        exact blk_lt g2
    · exact .inl (h.odb b hx)
end Go.Proofs.YtdamippibpbjhaaGreatDoor

/-! What a decoder does ahead of the next number: numbers of 32 bits. (Written by tools/d32.py.) -/
namespace Go.Proofs.YtdamippibpbjhaaGreatDoor
open Go.RowKit

def enc32 (v : Int) : Value := .int .i32 (wrap32 v)
theorem At.begin32 {E : Env} {db mb : Nat} {y : Way} {l : List Int} {Y : Lay E.D y l} {O : Nat → Prop} {v : Nat} {d : DV} {mc : Array Value} {w : World} (hF : Fine E db mb y l) (hW32 : y.W = 32) (hO : Oc E db mb O w) (h : At E 218 21 enc32 db mb Y O v d mc w) (h1 : 1 ≤ v) (hv : v < l.length) :
    (d.cb = 0 ∧ Calls Tryz.prog 113 #[.pointer (some ⟨db, 0, none⟩)] w fun e w' => e = .returned .nilIface ∧ Keep O w w' ∧ ∃ d' mc', Mid E 218 21 enc32 db mb Y (Gr O w w') v d' mc' w' ∧ d'.nv = d.nv ∧ d'.used = d.used) ∨
    (1 ≤ d.cb ∧ d.cb ≤ 1024 ∧ Mid E 218 21 enc32 db mb Y O v d mc w) := by
  have hS := hF.hS
  rcases h with ⟨hv1, h⟩ | ⟨dd, x, k, j, i, hv1, hj, hi0, hi, h⟩
  · refine .inl ⟨h.cb, (h.init32 21 hF.hW hF.hA hF.hy hF.hM hF.hS hW32 (by omega) hO.od hO.ob hO.om).mono ?_⟩
    rintro e w' ⟨he, hk, d', mc', dd, h', hn⟩
    exact ⟨he, hk, d', mc', .inl ⟨dd, 0, 0, by omega, hF.hy.M0, h'⟩, hn⟩
  · have hjn := Way.jn hF.hy hj
    by_cases hin : i = y.n
    · subst hin
      by_cases hjM : j + 1 = y.M
      · have e : j * y.n + y.n = y.S := by rw [hF.hy.S, ← hjM, Nat.add_mul, Nat.one_mul]
        refine .inl ⟨by rw [h.cb, ← e]; omega, (h.init32 hF.hW hF.hA hF.hy hF.hM hF.hS hW32 hjM rfl (by rw [Nat.add_mul, Nat.one_mul]; omega) hO.od hO.ob hO.om).mono ?_⟩
        rintro e' w' ⟨he, hk, d', mc', dd, h', hn⟩
        exact ⟨he, hk, d', mc', .inl ⟨dd, k + 1, 0, by rw [Nat.add_mul, Nat.one_mul]; omega, hF.hy.M0, h'⟩, hn⟩
      · have hjn' := Way.jn hF.hy (show j + 1 < y.M by omega)
        rw [Nat.add_mul, Nat.one_mul] at hjn'
        have := hF.hy.n0
        refine .inr ⟨by rw [h.cb]; omega, by rw [h.cb]; omega, .inl ⟨dd, k, j + 1, by rw [Nat.add_mul j 1, Nat.one_mul]; omega, by omega, h.s1⟩⟩
    · exact .inr ⟨by rw [h.cb]; omega, by rw [h.cb]; omega, .inr ⟨dd, x, k, j, i, hv1, hj, by omega, h⟩⟩
theorem Mid.next32 {E : Env} {db mb : Nat} {y : Way} {l : List Int} {Y : Lay E.D y l} {O : Nat → Prop} {v : Nat} {d : DV} {mc : Array Value} {w : World} (hF : Fine E db mb y l) (hW32 : y.W = 32) (hO : Oc E db mb O w) (h : Mid E 218 21 enc32 db mb Y O v d mc w) (hv : v < l.length) :
    (d.cmv = 0 ∧ Calls Tryz.prog 114 #[.pointer (some ⟨db, 0, none⟩)] w fun e w' => e = .returned .nilIface ∧ Keep O w w' ∧ ∃ d', Full E 218 21 enc32 db mb Y (Gr O w w') v d' mc w' ∧ d'.nv = d.nv ∧ d'.used = d.used) ∨
    (1 ≤ d.cmv ∧ d.cmv ≤ 1024 ∧ Full E 218 21 enc32 db mb Y O v d mc w) := by
  have hn := hF.hn
  rcases h with ⟨dd, k, j, hv1, hj, h⟩ | ⟨dd, x, k, j, i, hv1, hj, hi, h⟩
  · refine .inl ⟨h.cmv, (h.mini32 hF.hW hF.hA hF.hy (by omega) hF.hM hF.hn hj (by omega) hF.hl0 hO.od hO.ob hO.orb).mono ?_⟩
    rintro e w' ⟨he, hk, d', x, h', hn'⟩
    exact ⟨he, hk, d', ⟨dd, x, k, j, 0, by omega, hj, by omega, h'⟩, hn'⟩
  · exact .inr ⟨by rw [h.cmv]; omega, by rw [h.cmv]; omega, ⟨dd, x, k, j, i, hv1, hj, hi, h⟩⟩
end Go.Proofs.YtdamippibpbjhaaGreatDoor

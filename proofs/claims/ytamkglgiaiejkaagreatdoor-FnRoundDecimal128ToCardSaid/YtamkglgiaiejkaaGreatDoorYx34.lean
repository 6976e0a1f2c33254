import Derived.Test.YtamkglgiaiejkaaGreatDoorYx33
/-! The kernel: a decimal is rounded to a multiple of another one. -/
namespace Go.Proofs.YtamkglgiaiejkaaGreatDoor
open Go.RowKit

/-- What the kernel keeps: the type, the mode, the multiple, its half, the half's negative, whether there is one, the operations. -/
def rndCells (tb : Nat) (mode m half : Int) (has : Bool) (ib : Nat) (fv : Value) : Array Value :=
  #[.iface 47 (.pointer (some ⟨tb, 0, none⟩)), .int .i8 mode, .int .u64 ((m % 18446744073709551616).toNat : Nat), .int .i64 (m / 18446744073709551616), .int .u64 ((half % 18446744073709551616).toNat : Nat), .int .i64 (half / 18446744073709551616), .int .u64 (((-half) % 18446744073709551616).toNat : Nat), .int .i64 ((-half) / 18446744073709551616), .bool has, .pointer (some ⟨ib, 0, none⟩), fv]
theorem num_eq {a b : Int} : (((a % 18446744073709551616).toNat : Int) = ((b % 18446744073709551616).toNat : Int) ∧ a / 18446744073709551616 = b / 18446744073709551616) ↔ a = b := by omega
/-- What the kernel's rounding answers: the number, or an error behind the pointer. -/
def CallSaid (d : Int) (p eb : Nat) (w : World) (e : Ending) (w' : World) : Prop :=
  (d.natAbs < 10 ^ p ∧ e = .returned (numV d) ∧ Keep (fun _ => False) w w') ∨ (¬ d.natAbs < 10 ^ p ∧ e = .returned (numV 0) ∧ Keep (fun b => b = eb) w w' ∧ ∃ a, w'.heap[eb]? = some (.cells #[.iface 140 a] 44 (0, 0)))
/-- The state behind the rounding. -/
structure Done (rb eb rs db vb : Nat) (W : World → Prop) (A : Act) (w : World) : Prop where
  size : A.tmps.size = 476
  defers : A.defers = []
  a0 : A.eval (.tmp 0) = .pointer (some ⟨rb, 0, none⟩)
  a2 : A.eval (.tmp 2) = .pointer (some ⟨eb, 0, none⟩)
  a6 : A.eval (.tmp 6) = .pointer (some ⟨rs, 0, none⟩)
  a7 : A.eval (.tmp 7) = .pointer (some ⟨db, 0, none⟩)
  a8 : A.eval (.tmp 8) = .pointer (some ⟨vb, 0, none⟩)
  world : W w
theorem nlt {a b c : Nat} (h1 : a < b) (h2 : b + 1 + 1 < c) : ¬ a = c := by omega
theorem nle {a b c : Nat} (h1 : a ≤ b) (h2 : c < a) : ¬ b = c := by omega
theorem nz {a c : Nat} (h2 : a + 1 + 1 < c) : ¬ 0 = c := by omega
theorem nl1 {a c : Nat} (h2 : a + 1 + 1 < c) : ¬ a + 1 = c := by omega
theorem nl2 {a c : Nat} (h2 : a + 1 + 1 < c) : ¬ a + 1 + 1 = c := by omega
theorem gfr {a b c : Nat} (h2 : a + 1 + 1 < c) (h : b = c) : a ≤ b := by omega
theorem nl3 {a b : Nat} (h : b < a) : b ≠ a + 1 := by omega
theorem nl4 {a b : Nat} (h : b < a) : ¬ a + 1 + 1 = b := by omega
theorem nl5 {a b : Nat} (h : b < a) : a + 1 ≠ b := by omega
theorem odd_of {q : Int} (h : ¬ q % 2 = 0) : q % 2 = 1 := by omega
theorem no_hi {m : Int} (h4 : 4 ≤ m) (h9 : m ≤ 9) (n4 : ¬ m = 4) (n5 : ¬ m = 5) (n6 : ¬ m = 6) (n7 : ¬ m = 7) (n8 : ¬ m = 8) (n9 : ¬ m = 9) : False := by omega
theorem no_lo {m : Int} (h4 : ¬ 4 ≤ m) (h0 : 0 ≤ m) (n0 : ¬ m = 0) (n1 : ¬ m = 1) (n2 : ¬ m = 2) (n3 : ¬ m = 3) : False := by omega
set_option maxRecDepth 100000 in
set_option maxHeartbeats 8000000 in
theorem prec310 (tb : Nat) (p s : Int) (w : World) (hT : w.heap[tb]? = some (.cells #[.int .i32 p, .int .i32 s] 49 (0, 0))) : Calls Tryz.prog 310 #[.pointer (some ⟨tb, 0, none⟩)] w fun e w' => e = .returned (.int .i32 p) ∧ w' = w := by
  have hc := blk_cell hT 0
  have hf := blk_frozen hT
  simp only [List.getElem?_toArray, List.getElem?_cons_zero] at hc
  go_enter Tryz.func310, Tryz.ntmps310
  go_wp2_with fail
  go_ret
  exact ⟨rfl, rfl⟩
set_option maxRecDepth 100000 in
set_option maxHeartbeats 8000000 in
theorem new71 (s : ByteArray) (w : World) : Calls Tryz.prog 71 #[.string s] w fun e w' => e = .returned (.iface 140 (.pointer (some ⟨w.heap.size, 0, none⟩))) ∧ Keep (fun _ => False) w w' := by
  go_enter Tryz.func71, Tryz.ntmps71
  go_wp2_with fail
  go_ret
  exact ⟨rfl, (Keep.refl _ w).alloc _⟩
set_option maxRecDepth 100000 in
set_option maxHeartbeats 8000000 in
theorem call41 (x m mode : Int) (hm : 0 < m) (hx9 : x.natAbs < 1000000000000000000000000000000000000) (hm9 : m < 1000000000000000000000000000000000000) (h0 : 0 ≤ mode) (h9 : mode ≤ 9) (p : Nat) (hp1 : 1 ≤ p) (hp38 : p ≤ 38) (hxp : x.natAbs < 10 ^ p)
    (rb ib ob tb eb : Nat) (fv : Value) (s : Int) (w : World) (hR : w.heap[rb]? = some (.cells (rndCells tb mode m (m / 2) (decide (m % 2 = 0)) ib fv) 87 (0, 0))) (hI : Impl w ib ob) (hT : w.heap[tb]? = some (.cells #[.int .i32 p, .int .i32 s] 49 (0, 0)))
    (hE : w.heap[eb]? = some (.cells #[.nilIface] 44 (0, 0))) (hG : w.cell? ⟨2, 0, none⟩ = some (.int .i64 40)) (hS : Scales w) :
    Calls Tryz.prog 41 #[.pointer (some ⟨rb, 0, none⟩), numV x, .pointer (some ⟨eb, 0, none⟩)] w fun e w' =>
      CallSaid (dueOf x m mode) p eb w e w' := by
  have sm : ∀ z : Int, -5000000000000000000000000000000000000 ≤ z → z ≤ 5000000000000000000000000000000000000 → Small z := fun z a b => ⟨by omega, by omega⟩
  obtain ⟨q, hq⟩ : ∃ z, z = x.tdiv m := ⟨_, rfl⟩
  obtain ⟨r, hr⟩ : ∃ z, z = x.tmod m := ⟨_, rfl⟩
  obtain ⟨f1, f2, f3, f4, f5, f6⟩ := due_facts hm hq hr
  have HDiv := Lib.hid (fun w hG => opDivide45 x m (sm x (by omega) (by omega)) (sm m (by omega) (by omega)) (by omega) w hG)
  have HOne := Lib.hid (fun w => opFrom56 1 (by decide) (by decide) w)
  have HSign := Lib.hid (fun w => opSign83 r (sm r (by omega) (by omega)) w)
  have HLow := Lib.hid (fun w => opLow55 q w)
  have HAdd := Lib.hid (fun w => opAdd72 q 1 (sm q (by omega) (by omega)) ⟨by decide, by decide⟩ w)
  have HSub := Lib.hid (fun w => opSub74 q 1 (sm q (by omega) (by omega)) ⟨by decide, by decide⟩ w)
  have HLess1 := Lib.hid (fun w => opLess49 (m / 2) r w)
  have HLess2 := Lib.hid (fun w => opLess49 r (-(m / 2)) w)
  obtain ⟨d, hd⟩ : ∃ z, z = dueOf x m mode := ⟨_, rfl⟩
  have hdb := due_bound (x := x) (mode := mode) hm h0 h9
  rw [← hd] at hdb
  have hds : Small d := sm d (by omega) (by omega)
  have hdz : r = 0 → d = x := fun h => by rw [hd]; exact due_zero hm (hr ▸ h)
  have hde : r ≠ 0 → d = (q + adj q r m mode) * m := fun h => by rw [hd, due_else hm (hr ▸ h) h0 h9, ← hq, ← hr]
  have HFit := Lib.hid (fun w hS => opFits47 d hds p hp1 hp38 w hS)
  have HMul : Hid (r ≠ 0 → ∀ w, Calls Tryz.prog 76 #[numV (q + adj q r m mode), numV m] w fun e w' => e = .returned (numV d) ∧ Keep (fun _ => False) w w') := Lib.hid (fun h w => by
    have := opMul76 (q + adj q r m mode) m (by rw [← hde h]; exact hds) w
    rw [← hde h] at this
    exact this)
  have HGP := Lib.hid (fun w hT => prec310 tb p s w hT)
  have HNew := Lib.hid (fun t w => new71 t w)
  rw [← hd]
  rw [← hq, ← hr] at HDiv
  have e1 : numV 1 = .agg #[.int .u64 1, .int .i64 0] := rfl
  obtain ⟨lox, hlox⟩ : ∃ z, z = ((x) % 18446744073709551616).toNat := ⟨_, rfl⟩
  obtain ⟨upx, hupx⟩ : ∃ z, z = (x) / 18446744073709551616 := ⟨_, rfl⟩
  have ex : numV (x) = .agg #[.int .u64 lox, .int .i64 upx] := by rw [hlox, hupx]; rfl
  obtain ⟨lom, hlom⟩ : ∃ z, z = ((m) % 18446744073709551616).toNat := ⟨_, rfl⟩
  obtain ⟨upm, hupm⟩ : ∃ z, z = (m) / 18446744073709551616 := ⟨_, rfl⟩
  have em : numV (m) = .agg #[.int .u64 lom, .int .i64 upm] := by rw [hlom, hupm]; rfl
  obtain ⟨loq, hloq⟩ : ∃ z, z = ((q) % 18446744073709551616).toNat := ⟨_, rfl⟩
  obtain ⟨upq, hupq⟩ : ∃ z, z = (q) / 18446744073709551616 := ⟨_, rfl⟩
  have eq : numV (q) = .agg #[.int .u64 loq, .int .i64 upq] := by rw [hloq, hupq]; rfl
  obtain ⟨lor, hlor⟩ : ∃ z, z = ((r) % 18446744073709551616).toNat := ⟨_, rfl⟩
  obtain ⟨upr, hupr⟩ : ∃ z, z = (r) / 18446744073709551616 := ⟨_, rfl⟩
  have er : numV (r) = .agg #[.int .u64 lor, .int .i64 upr] := by rw [hlor, hupr]; rfl
  obtain ⟨lof, hlof⟩ : ∃ z, z = ((m / 2) % 18446744073709551616).toNat := ⟨_, rfl⟩
  obtain ⟨upf, hupf⟩ : ∃ z, z = (m / 2) / 18446744073709551616 := ⟨_, rfl⟩
  have ef : numV (m / 2) = .agg #[.int .u64 lof, .int .i64 upf] := by rw [hlof, hupf]; rfl
  obtain ⟨lon, hlon⟩ : ∃ z, z = ((-(m / 2)) % 18446744073709551616).toNat := ⟨_, rfl⟩
  obtain ⟨upn, hupn⟩ : ∃ z, z = (-(m / 2)) / 18446744073709551616 := ⟨_, rfl⟩
  have en : numV (-(m / 2)) = .agg #[.int .u64 lon, .int .i64 upn] := by rw [hlon, hupn]; rfl
  obtain ⟨lov, hlov⟩ : ∃ z, z = ((q + adj q r m mode) % 18446744073709551616).toNat := ⟨_, rfl⟩
  obtain ⟨upv, hupv⟩ : ∃ z, z = (q + adj q r m mode) / 18446744073709551616 := ⟨_, rfl⟩
  have ev : numV (q + adj q r m mode) = .agg #[.int .u64 lov, .int .i64 upv] := by rw [hlov, hupv]; rfl
  obtain ⟨loa, hloa⟩ : ∃ z, z = ((q + 1) % 18446744073709551616).toNat := ⟨_, rfl⟩
  obtain ⟨upa, hupa⟩ : ∃ z, z = (q + 1) / 18446744073709551616 := ⟨_, rfl⟩
  have ea : numV (q + 1) = .agg #[.int .u64 loa, .int .i64 upa] := by rw [hloa, hupa]; rfl
  obtain ⟨los, hlos⟩ : ∃ z, z = ((q - 1) % 18446744073709551616).toNat := ⟨_, rfl⟩
  obtain ⟨ups, hups⟩ : ∃ z, z = (q - 1) / 18446744073709551616 := ⟨_, rfl⟩
  have es : numV (q - 1) = .agg #[.int .u64 los, .int .i64 ups] := by rw [hlos, hups]; rfl
  obtain ⟨lod, hlod⟩ : ∃ z, z = ((d) % 18446744073709551616).toNat := ⟨_, rfl⟩
  obtain ⟨upd, hupd⟩ : ∃ z, z = (d) / 18446744073709551616 := ⟨_, rfl⟩
  have ed : numV (d) = .agg #[.int .u64 lod, .int .i64 upd] := by rw [hlod, hupd]; rfl
  rw [ex, em, eq, er] at HDiv
  rw [e1] at HOne
  rw [er] at HSign
  rw [eq, ← hloq] at HLow
  rw [eq, e1, ea] at HAdd
  rw [eq, e1, es] at HSub
  rw [ef, er] at HLess1
  rw [er, en] at HLess2
  rw [ed] at HFit
  rw [ev, em, ed] at HMul
  rw [ex]
  have HEX := Lib.hid ex
  have HED := Lib.hid ed
  have HAP : Hid (adj q r m mode = 1 → lov = loa ∧ upv = upa) := Lib.hid fun h => by rw [hlov, hupv, hloa, hupa, h]; exact ⟨rfl, rfl⟩
  have HAM : Hid (adj q r m mode = -1 → lov = los ∧ upv = ups) := Lib.hid fun h => by rw [hlov, hupv, hlos, hups, h]; exact ⟨rfl, rfl⟩
  have HAZ : Hid (adj q r m mode = 0 → lov = loq ∧ upv = upq) := Lib.hid fun h => by rw [hlov, hupv, hloq, hupq, h, Int.add_zero]; exact ⟨rfl, rfl⟩
  have HEH : Hid ((r = m / 2 → lof = lor ∧ upf = upr) ∧ (r ≠ m / 2 → ¬ lor = lof ∨ ¬ upr = upf)) := Lib.hid ⟨fun h => by rw [hlof, hupf, hlor, hupr, h]; exact ⟨rfl, rfl⟩, fun h => by rw [hlof, hupf, hlor, hupr]; omega⟩
  have HEN : Hid ((r = -(m / 2) → lon = lor ∧ upn = upr) ∧ (r ≠ -(m / 2) → ¬ lor = lon ∨ ¬ upr = upn)) := Lib.hid ⟨fun h => by rw [hlon, hupn, hlor, hupr, h]; exact ⟨rfl, rfl⟩, fun h => by rw [hlon, hupn, hlor, hupr]; omega⟩
  have HPQ : Hid ((loq : Int) % 2 = q % 2) := Lib.hid (by rw [hloq]; omega)
  unfold rndCells at hR
  rw [← hlom, ← hupm, ← hlof, ← hupf, ← hlon, ← hupn] at hR
  have HRZ : Hid ((r = 0 → lor = 0 ∧ upr = 0) ∧ (r ≠ 0 → ¬ (lor = 0 ∧ upr = 0))) := Lib.hid ⟨fun h => by rw [hlor, hupr, h]; decide, fun h h2 => h (by omega)⟩
  have Q0 := Lib.hid (@num_eq r 0)
  obtain ⟨b7, hk0⟩ := box3 w (.cells #[.int .u64 lox, .int .i64 upx] 42) (.cells #[.int .u64 0, .int .i64 0] 42) (.cells #[.int .u64 0, .int .i64 0] 42)
  have b6 : (((w.alloc (.cells #[.int .u64 lox, .int .i64 upx] 42)).alloc (.cells #[.int .u64 0, .int .i64 0] 42)).alloc (.cells #[.int .u64 0, .int .i64 0] 42)).heap[w.heap.size + 1]? = some (.cells #[.int .u64 0, .int .i64 0] 42) := blk_alloc (box2 w (.cells #[.int .u64 lox, .int .i64 upx] 42) (.cells #[.int .u64 0, .int .i64 0] 42)).1 _
  have b4 : (((w.alloc (.cells #[.int .u64 lox, .int .i64 upx] 42)).alloc (.cells #[.int .u64 0, .int .i64 0] 42)).alloc (.cells #[.int .u64 0, .int .i64 0] 42)).heap[w.heap.size]? = some (.cells #[.int .u64 lox, .int .i64 upx] 42) := blk_alloc (blk_alloc (blk_new w _) _) _
  have hR0 := hk0.blk hR (fun h => h)
  have hI0 := hI.keep hk0 (fun h => h) (fun h => h)
  have rb0 := blk_cell hR0 0
  have rb1 := blk_cell hR0 1
  have rb2 := blk_cell hR0 2
  have rb3 := blk_cell hR0 3
  have rb4 := blk_cell hR0 4
  have rb5 := blk_cell hR0 5
  have rb6 := blk_cell hR0 6
  have rb7 := blk_cell hR0 7
  have rb8 := blk_cell hR0 8
  have rb9 := blk_cell hR0 9
  have ib0 := blk_cell hI0.1 0
  have ib3 := blk_cell hI0.1 3
  have ib4 := blk_cell hI0.1 4
  have ib5 := blk_cell hI0.1 5
  have ib8 := blk_cell hI0.1 8
  have ib9 := blk_cell hI0.1 9
  have ob0 := blk_cell hI0.2 0
  have ob1 := blk_cell hI0.2 1
  have ob3 := blk_cell hI0.2 3
  have ob6 := blk_cell hI0.2 6
  have ab0 := blk_cell b4 0
  have ab1 := blk_cell b4 1
  have db0 := blk_cell b7 0
  have db1 := blk_cell b7 1
  unfold implCells at ib0 ib3 ib4 ib5 ib8 ib9
  unfold opsCells at ob0 ob1 ob3 ob6
  simp only [List.getElem?_toArray, List.getElem?_cons_zero, List.getElem?_cons_succ] at rb0 rb1 rb2 rb3 rb4 rb5 rb6 rb7 rb8 rb9 ib0 ib3 ib4 ib5 ib8 ib9 ob0 ob1 ob3 ob6 ab0 ab1 db0 db1
  have hG0 := hk0.cell hG (fun h => h)
  have hS0 := hS.keep hk0 (fun h => h)
  have hT0 := hk0.blk hT (fun h => h)
  have hE0 := hk0.blk hE (fun h => h)
  have HENV := Lib.hid (And.intro hG0 (And.intro hS0 (And.intro hT0 hE0)))
  have HNUM := Lib.hid (And.intro hm (And.intro h0 (And.intro h9 (And.intro f2 (And.intro f3 (And.intro hds (And.intro hdz hde)))))))
  have hlw : w.heap.size + 1 + 1 < (((w.alloc (.cells #[.int .u64 lox, .int .i64 upx] 42)).alloc (.cells #[.int .u64 0, .int .i64 0] 42)).alloc (.cells #[.int .u64 0, .int .i64 0] 42)).heap.size := blk_lt b7
  have hrl := blk_lt hR
  have hil := blk_lt hI.1
  have hol := blk_lt hI.2
  have htl := blk_lt hT
  have hel := blk_lt hE
  have HB6 := Lib.hid b6
  clear hG hG0 hS hS0 hT hT0 hE hE0 hR hR0 hI hI0 hm h0 h9 f1 f2 f3 f4 f5 f6 hds hdz hde hdb sm hx9 hm9 hd hq hr e1 ex hlox hupx em hlom hupm eq hloq hupq er hlor hupr ef hlof hupf en hlon hupn ev hlov hupv ea hloa hupa es hlos hups ed hlod hupd b4 b6 b7
  go_enter Tryz.func41, Tryz.ntmps41
  go_upto_region 2 with fail
  generalize ((w.alloc (.cells #[.int .u64 lox, .int .i64 upx] 42)).alloc (.cells #[.int .u64 0, .int .i64 0] 42)).alloc (.cells #[.int .u64 0, .int .i64 0] 42) = w0 at *
  go_cut [8, 9] from 8 to 27 (fun t8 t9 wx => ∃ vb qb : Nat, t8 = .pointer (some ⟨vb, 0, none⟩) ∧ t9 = .pointer (some ⟨qb, 0, none⟩) ∧ vb ≠ qb ∧ w.heap.size + 1 + 1 < vb ∧ w.heap.size + 1 + 1 < qb ∧ wx.heap[vb]? = some (.cells #[.int .u64 loq, .int .i64 upq] 42 (0, 0)) ∧ wx.heap[qb]? = some (.cells #[.int .u64 lor, .int .i64 upr] 42 (0, 0)) ∧ Keep (fun _ => False) w0 wx)
  case first =>
    have hkd : Keep (fun _ => False) w0 w0.drew := (Keep.refl _ w0).drew
    refine wp_region_takesC (fun w' => Keep (fun _ => False) w0 w') (by kernel_rfl) ?_
    generalize w0.drew = wd at *
    have hsd := hkd.size
    go_simp
    refine wpC_take 0 (v := .pointer (some ⟨rb, 0, none⟩)) (by kernel_rfl) rfl rfl (fun _ _ _ h => h) (fun w' hC => by go_simp) ?_
    go_simp
    refine wpC_take 1 (v := .pointer (some ⟨rb, 0, none⟩)) (by kernel_rfl) rfl rfl (fun _ _ _ h => h) (fun w' hC => by go_simp) ?_
    go_simp
    refine wpC_take 2 (v := .pointer (some ⟨rb, 9, none⟩)) (by kernel_rfl) rfl rfl (fun _ _ _ h => h) (fun w' hC => by go_simp) ?_
    go_simp
    refine wpC_take 3 (v := .pointer (some ⟨ib, 0, none⟩)) (by kernel_rfl) rfl rfl (fun _ _ _ h => h) (fun w' hC => by have c0 := (hC).cell rb9 (fun h => h); go_simp) ?_
    go_simp
    refine wpC_take 4 (v := .pointer (some ⟨ib, 0, none⟩)) (by kernel_rfl) rfl rfl (fun _ _ _ h => h) (fun w' hC => by go_simp) ?_
    go_simp
    refine wpC_take 5 (v := .pointer (some ⟨ib, 3, none⟩)) (by kernel_rfl) rfl rfl (fun _ _ _ h => h) (fun w' hC => by go_simp) ?_
    go_simp
    refine wpC_take 6 (v := .func (.func 45) #[] #[]) (by kernel_rfl) rfl rfl (fun _ _ _ h => h) (fun w' hC => by have c0 := (hC).cell ib3 (fun h => h); go_simp) ?_
    go_simp
    refine wpC_take 7 (v := .agg #[.int .u64 lox, .int .i64 upx]) (by kernel_rfl) rfl rfl (fun _ _ _ h => h) (fun w' hC => by have c0 := (hC).cell ab0 (fun h => h); have c1 := (hC).cell ab1 (fun h => h); go_simp) ?_
    go_simp
    refine wpC_take 8 (v := .pointer (some ⟨rb, 0, none⟩)) (by kernel_rfl) rfl rfl (fun _ _ _ h => h) (fun w' hC => by go_simp) ?_
    go_simp
    refine wpC_take 9 (v := .pointer (some ⟨rb, 0, none⟩)) (by kernel_rfl) rfl rfl (fun _ _ _ h => h) (fun w' hC => by go_simp) ?_
    go_simp
    refine wpC_take 10 (v := .pointer (some ⟨rb, 2, none⟩)) (by kernel_rfl) rfl rfl (fun _ _ _ h => h) (fun w' hC => by go_simp) ?_
    go_simp
    refine wpC_take 11 (v := .agg #[.int .u64 lom, .int .i64 upm]) (by kernel_rfl) rfl rfl (fun _ _ _ h => h) (fun w' hC => by have c0 := (hC).cell rb2 (fun h => h); have c1 := (hC).cell rb3 (fun h => h); go_simp) ?_
    go_simp
    refine wpC_three 12 16 17 (by kernel_rfl) hkd rfl rfl rfl ?_ ?_ ?_
    · go_wp2_with fail
      refine (HDiv.out wd ((hkd).cell HENV.out.1 (fun h => h))).mono ?_
      rintro e w1 ⟨rfl, hc1⟩
      have hk1 := (hkd).trans hc1
      have hs1 := hc1.size
      go_wp2_with fail
      refine wpC_take 13 (v := .tuple #[.agg #[.int .u64 loq, .int .i64 upq], .agg #[.int .u64 lor, .int .i64 upr]]) (by kernel_rfl) rfl rfl (fun _ _ _ h => h) (fun w' hC => by go_simp) ?_
      go_simp
      refine wpC_take 14 (v := .agg #[.int .u64 loq, .int .i64 upq]) (by kernel_rfl) rfl rfl (fun _ _ _ h => h) (fun w' hC => by go_simp) ?_
      go_simp
      refine wpC_take 15 (v := .agg #[.int .u64 lor, .int .i64 upr]) (by kernel_rfl) rfl rfl (fun _ _ _ h => h) (fun w' hC => by go_simp) ?_
      go_simp
      refine wpC_two 16 17 (by kernel_rfl) hk1 rfl rfl ?_ ?_
      · go_wp2_with fail
        have hk2 := (hk1).alloc (.cells #[.int .u64 0, .int .i64 0] 42)
        have hb16_2 := blk_new w1 (.cells #[.int .u64 0, .int .i64 0] 42)
        generalize w1.alloc (.cells #[.int .u64 0, .int .i64 0] 42) = w2 at *
        have hs2 := blk_lt hb16_2
        refine wpC_only 17 (by kernel_rfl) hk2 rfl ?_
        go_wp2_with fail
        have hk3 := (hk2).alloc (.cells #[.int .u64 0, .int .i64 0] 42)
        have hb17_3 := blk_new w2 (.cells #[.int .u64 0, .int .i64 0] 42)
        have hb16_3 := blk_alloc hb16_2 (.cells #[.int .u64 0, .int .i64 0] 42)
        generalize w2.alloc (.cells #[.int .u64 0, .int .i64 0] 42) = w3 at *
        have hs3 := blk_lt hb17_3
        have hlv4 := blk_lt hb16_3
        have hlq4 := blk_lt hb17_3
        have hsv4 := hkd.size
        have hne4 : w1.heap.size ≠ w2.heap.size := by omega
        have fv := blk_frozen hb16_3
        have cv0 := blk_cell hb16_3 0
        have cv1 := blk_cell hb16_3 1
        simp only [List.getElem?_toArray, List.getElem?_cons_zero, List.getElem?_cons_succ] at cv0 cv1
        refine wpC_only 18 (by kernel_rfl) hk3 rfl ?_
        go_wp2_with fail
        have hkS : Keep (fun _ => False) w0 ((w3.setCell ⟨w1.heap.size, 0, none⟩ (.int .u64 loq)).setCell ⟨w1.heap.size, 1, none⟩ (.int .i64 upq)) := ((hk3).setCell (.inr (by dsimp only; omega)) _).setCell (.inr (by dsimp only; omega)) _
        have hvS := blk_set (blk_set hb16_3 0 (.int .u64 loq)) 1 (.int .i64 upq)
        have hqS := blk_far (blk_far hb17_3 (p := ⟨w1.heap.size, 0, none⟩) (by dsimp only; omega) (.int .u64 loq)) (p := ⟨w1.heap.size, 1, none⟩) (by dsimp only; omega) (.int .i64 upq)
        generalize (w3.setCell ⟨w1.heap.size, 0, none⟩ (.int .u64 loq)).setCell ⟨w1.heap.size, 1, none⟩ (.int .i64 upq) = wS at *
        have fq := blk_frozen hqS
        have cq0 := blk_cell hqS 0
        have cq1 := blk_cell hqS 1
        simp only [List.getElem?_toArray, List.getElem?_cons_zero, List.getElem?_cons_succ] at cq0 cq1
        refine wpC_only 19 (by kernel_rfl) hkS rfl ?_
        go_wp2_with fail
        have hkE : Keep (fun _ => False) w0 ((wS.setCell ⟨w2.heap.size, 0, none⟩ (.int .u64 lor)).setCell ⟨w2.heap.size, 1, none⟩ (.int .i64 upr)) := (hkS.setCell (.inr (by dsimp only; omega)) _).setCell (.inr (by dsimp only; omega)) _
        have hqE := blk_set (blk_set hqS 0 (.int .u64 lor)) 1 (.int .i64 upr)
        have hvE := blk_far (blk_far hvS (p := ⟨w2.heap.size, 0, none⟩) (by dsimp only; omega) (.int .u64 lor)) (p := ⟨w2.heap.size, 1, none⟩) (by dsimp only; omega) (.int .i64 upr)
        simp at hvE hqE
        refine wpC_stop (by kernel_rfl) hkE ?_
        go_wp2_with fail
        go_meet
        exact ⟨_, _, rfl, rfl, hne4, by omega, by omega, hvE, hqE, hkE⟩
      · go_wp2_with fail
        have hk5 := (hk1).alloc (.cells #[.int .u64 0, .int .i64 0] 42)
        have hb17_5 := blk_new w1 (.cells #[.int .u64 0, .int .i64 0] 42)
        generalize w1.alloc (.cells #[.int .u64 0, .int .i64 0] 42) = w5 at *
        have hs5 := blk_lt hb17_5
        refine wpC_only 16 (by kernel_rfl) hk5 rfl ?_
        go_wp2_with fail
        have hk6 := (hk5).alloc (.cells #[.int .u64 0, .int .i64 0] 42)
        have hb16_6 := blk_new w5 (.cells #[.int .u64 0, .int .i64 0] 42)
        have hb17_6 := blk_alloc hb17_5 (.cells #[.int .u64 0, .int .i64 0] 42)
        generalize w5.alloc (.cells #[.int .u64 0, .int .i64 0] 42) = w6 at *
        have hs6 := blk_lt hb16_6
        have hlv7 := blk_lt hb16_6
        have hlq7 := blk_lt hb17_6
        have hsv7 := hkd.size
        have hne7 : w5.heap.size ≠ w1.heap.size := by omega
        have fv := blk_frozen hb16_6
        have cv0 := blk_cell hb16_6 0
        have cv1 := blk_cell hb16_6 1
        simp only [List.getElem?_toArray, List.getElem?_cons_zero, List.getElem?_cons_succ] at cv0 cv1
        refine wpC_only 18 (by kernel_rfl) hk6 rfl ?_
        go_wp2_with fail
        have hkS : Keep (fun _ => False) w0 ((w6.setCell ⟨w5.heap.size, 0, none⟩ (.int .u64 loq)).setCell ⟨w5.heap.size, 1, none⟩ (.int .i64 upq)) := ((hk6).setCell (.inr (by dsimp only; omega)) _).setCell (.inr (by dsimp only; omega)) _
        have hvS := blk_set (blk_set hb16_6 0 (.int .u64 loq)) 1 (.int .i64 upq)
        have hqS := blk_far (blk_far hb17_6 (p := ⟨w5.heap.size, 0, none⟩) (by dsimp only; omega) (.int .u64 loq)) (p := ⟨w5.heap.size, 1, none⟩) (by dsimp only; omega) (.int .i64 upq)
        generalize (w6.setCell ⟨w5.heap.size, 0, none⟩ (.int .u64 loq)).setCell ⟨w5.heap.size, 1, none⟩ (.int .i64 upq) = wS at *
        have fq := blk_frozen hqS
        have cq0 := blk_cell hqS 0
        have cq1 := blk_cell hqS 1
        simp only [List.getElem?_toArray, List.getElem?_cons_zero, List.getElem?_cons_succ] at cq0 cq1
        refine wpC_only 19 (by kernel_rfl) hkS rfl ?_
        go_wp2_with fail
        have hkE : Keep (fun _ => False) w0 ((wS.setCell ⟨w1.heap.size, 0, none⟩ (.int .u64 lor)).setCell ⟨w1.heap.size, 1, none⟩ (.int .i64 upr)) := (hkS.setCell (.inr (by dsimp only; omega)) _).setCell (.inr (by dsimp only; omega)) _
        have hqE := blk_set (blk_set hqS 0 (.int .u64 lor)) 1 (.int .i64 upr)
        have hvE := blk_far (blk_far hvS (p := ⟨w1.heap.size, 0, none⟩) (by dsimp only; omega) (.int .u64 lor)) (p := ⟨w1.heap.size, 1, none⟩) (by dsimp only; omega) (.int .i64 upr)
        simp at hvE hqE
        refine wpC_stop (by kernel_rfl) hkE ?_
        go_wp2_with fail
        go_meet
        exact ⟨_, _, rfl, rfl, hne7, by omega, by omega, hvE, hqE, hkE⟩
    · go_wp2_with fail
      have hk8 := (hkd).alloc (.cells #[.int .u64 0, .int .i64 0] 42)
      have hb16_8 := blk_new wd (.cells #[.int .u64 0, .int .i64 0] 42)
      generalize wd.alloc (.cells #[.int .u64 0, .int .i64 0] 42) = w8 at *
      have hs8 := blk_lt hb16_8
      refine wpC_two 12 17 (by kernel_rfl) hk8 rfl rfl ?_ ?_
      · go_wp2_with fail
        refine (HDiv.out w8 ((hk8).cell HENV.out.1 (fun h => h))).mono ?_
        rintro e w9 ⟨rfl, hc9⟩
        have hk9 := (hk8).trans hc9
        have hs9 := hc9.size
        have hb16_9 := hc9.blk hb16_8 (fun h => h)
        go_wp2_with fail
        refine wpC_take 13 (v := .tuple #[.agg #[.int .u64 loq, .int .i64 upq], .agg #[.int .u64 lor, .int .i64 upr]]) (by kernel_rfl) rfl rfl (fun _ _ _ h => h) (fun w' hC => by go_simp) ?_
        go_simp
        refine wpC_take 14 (v := .agg #[.int .u64 loq, .int .i64 upq]) (by kernel_rfl) rfl rfl (fun _ _ _ h => h) (fun w' hC => by go_simp) ?_
        go_simp
        refine wpC_take 15 (v := .agg #[.int .u64 lor, .int .i64 upr]) (by kernel_rfl) rfl rfl (fun _ _ _ h => h) (fun w' hC => by go_simp) ?_
        go_simp
        refine wpC_only 17 (by kernel_rfl) hk9 rfl ?_
        go_wp2_with fail
        have hk10 := (hk9).alloc (.cells #[.int .u64 0, .int .i64 0] 42)
        have hb17_10 := blk_new w9 (.cells #[.int .u64 0, .int .i64 0] 42)
        have hb16_10 := blk_alloc hb16_9 (.cells #[.int .u64 0, .int .i64 0] 42)
        generalize w9.alloc (.cells #[.int .u64 0, .int .i64 0] 42) = w10 at *
        have hs10 := blk_lt hb17_10
        have hlv11 := blk_lt hb16_10
        have hlq11 := blk_lt hb17_10
        have hsv11 := hkd.size
        have hne11 : wd.heap.size ≠ w9.heap.size := by omega
        have fv := blk_frozen hb16_10
        have cv0 := blk_cell hb16_10 0
        have cv1 := blk_cell hb16_10 1
        simp only [List.getElem?_toArray, List.getElem?_cons_zero, List.getElem?_cons_succ] at cv0 cv1
        refine wpC_only 18 (by kernel_rfl) hk10 rfl ?_
        go_wp2_with fail
        have hkS : Keep (fun _ => False) w0 ((w10.setCell ⟨wd.heap.size, 0, none⟩ (.int .u64 loq)).setCell ⟨wd.heap.size, 1, none⟩ (.int .i64 upq)) := ((hk10).setCell (.inr (by dsimp only; omega)) _).setCell (.inr (by dsimp only; omega)) _
        have hvS := blk_set (blk_set hb16_10 0 (.int .u64 loq)) 1 (.int .i64 upq)
        have hqS := blk_far (blk_far hb17_10 (p := ⟨wd.heap.size, 0, none⟩) (by dsimp only; omega) (.int .u64 loq)) (p := ⟨wd.heap.size, 1, none⟩) (by dsimp only; omega) (.int .i64 upq)
        generalize (w10.setCell ⟨wd.heap.size, 0, none⟩ (.int .u64 loq)).setCell ⟨wd.heap.size, 1, none⟩ (.int .i64 upq) = wS at *
        have fq := blk_frozen hqS
        have cq0 := blk_cell hqS 0
        have cq1 := blk_cell hqS 1
        simp only [List.getElem?_toArray, List.getElem?_cons_zero, List.getElem?_cons_succ] at cq0 cq1
        refine wpC_only 19 (by kernel_rfl) hkS rfl ?_
        go_wp2_with fail
        have hkE : Keep (fun _ => False) w0 ((wS.setCell ⟨w9.heap.size, 0, none⟩ (.int .u64 lor)).setCell ⟨w9.heap.size, 1, none⟩ (.int .i64 upr)) := (hkS.setCell (.inr (by dsimp only; omega)) _).setCell (.inr (by dsimp only; omega)) _
        have hqE := blk_set (blk_set hqS 0 (.int .u64 lor)) 1 (.int .i64 upr)
        have hvE := blk_far (blk_far hvS (p := ⟨w9.heap.size, 0, none⟩) (by dsimp only; omega) (.int .u64 lor)) (p := ⟨w9.heap.size, 1, none⟩) (by dsimp only; omega) (.int .i64 upr)
        simp at hvE hqE
        refine wpC_stop (by kernel_rfl) hkE ?_
        go_wp2_with fail
        go_meet
        exact ⟨_, _, rfl, rfl, hne11, by omega, by omega, hvE, hqE, hkE⟩
      · go_wp2_with fail
        have hk12 := (hk8).alloc (.cells #[.int .u64 0, .int .i64 0] 42)
        have hb17_12 := blk_new w8 (.cells #[.int .u64 0, .int .i64 0] 42)
        have hb16_12 := blk_alloc hb16_8 (.cells #[.int .u64 0, .int .i64 0] 42)
        generalize w8.alloc (.cells #[.int .u64 0, .int .i64 0] 42) = w12 at *
        have hs12 := blk_lt hb17_12
        refine wpC_only 12 (by kernel_rfl) hk12 rfl ?_
        go_wp2_with fail
        refine (HDiv.out w12 ((hk12).cell HENV.out.1 (fun h => h))).mono ?_
        rintro e w13 ⟨rfl, hc13⟩
        have hk13 := (hk12).trans hc13
        have hs13 := hc13.size
        have hb16_13 := hc13.blk hb16_12 (fun h => h)
        have hb17_13 := hc13.blk hb17_12 (fun h => h)
        go_wp2_with fail
        refine wpC_take 13 (v := .tuple #[.agg #[.int .u64 loq, .int .i64 upq], .agg #[.int .u64 lor, .int .i64 upr]]) (by kernel_rfl) rfl rfl (fun _ _ _ h => h) (fun w' hC => by go_simp) ?_
        go_simp
        refine wpC_take 14 (v := .agg #[.int .u64 loq, .int .i64 upq]) (by kernel_rfl) rfl rfl (fun _ _ _ h => h) (fun w' hC => by go_simp) ?_
        go_simp
        refine wpC_take 15 (v := .agg #[.int .u64 lor, .int .i64 upr]) (by kernel_rfl) rfl rfl (fun _ _ _ h => h) (fun w' hC => by go_simp) ?_
        go_simp
        have hlv14 := blk_lt hb16_13
        have hlq14 := blk_lt hb17_13
        have hsv14 := hkd.size
        have hne14 : wd.heap.size ≠ w8.heap.size := by omega
        have fv := blk_frozen hb16_13
        have cv0 := blk_cell hb16_13 0
        have cv1 := blk_cell hb16_13 1
        simp only [List.getElem?_toArray, List.getElem?_cons_zero, List.getElem?_cons_succ] at cv0 cv1
        refine wpC_only 18 (by kernel_rfl) hk13 rfl ?_
        go_wp2_with fail
        have hkS : Keep (fun _ => False) w0 ((w13.setCell ⟨wd.heap.size, 0, none⟩ (.int .u64 loq)).setCell ⟨wd.heap.size, 1, none⟩ (.int .i64 upq)) := ((hk13).setCell (.inr (by dsimp only; omega)) _).setCell (.inr (by dsimp only; omega)) _
        have hvS := blk_set (blk_set hb16_13 0 (.int .u64 loq)) 1 (.int .i64 upq)
        have hqS := blk_far (blk_far hb17_13 (p := ⟨wd.heap.size, 0, none⟩) (by dsimp only; omega) (.int .u64 loq)) (p := ⟨wd.heap.size, 1, none⟩) (by dsimp only; omega) (.int .i64 upq)
        generalize (w13.setCell ⟨wd.heap.size, 0, none⟩ (.int .u64 loq)).setCell ⟨wd.heap.size, 1, none⟩ (.int .i64 upq) = wS at *
        have fq := blk_frozen hqS
        have cq0 := blk_cell hqS 0
        have cq1 := blk_cell hqS 1
        simp only [List.getElem?_toArray, List.getElem?_cons_zero, List.getElem?_cons_succ] at cq0 cq1
        refine wpC_only 19 (by kernel_rfl) hkS rfl ?_
        go_wp2_with fail
        have hkE : Keep (fun _ => False) w0 ((wS.setCell ⟨w8.heap.size, 0, none⟩ (.int .u64 lor)).setCell ⟨w8.heap.size, 1, none⟩ (.int .i64 upr)) := (hkS.setCell (.inr (by dsimp only; omega)) _).setCell (.inr (by dsimp only; omega)) _
        have hqE := blk_set (blk_set hqS 0 (.int .u64 lor)) 1 (.int .i64 upr)
        have hvE := blk_far (blk_far hvS (p := ⟨w8.heap.size, 0, none⟩) (by dsimp only; omega) (.int .u64 lor)) (p := ⟨w8.heap.size, 1, none⟩) (by dsimp only; omega) (.int .i64 upr)
        simp at hvE hqE
        refine wpC_stop (by kernel_rfl) hkE ?_
        go_wp2_with fail
        go_meet
        exact ⟨_, _, rfl, rfl, hne14, by omega, by omega, hvE, hqE, hkE⟩
    · go_wp2_with fail
      have hk15 := (hkd).alloc (.cells #[.int .u64 0, .int .i64 0] 42)
      have hb17_15 := blk_new wd (.cells #[.int .u64 0, .int .i64 0] 42)
      generalize wd.alloc (.cells #[.int .u64 0, .int .i64 0] 42) = w15 at *
      have hs15 := blk_lt hb17_15
      refine wpC_two 12 16 (by kernel_rfl) hk15 rfl rfl ?_ ?_
      · go_wp2_with fail
        refine (HDiv.out w15 ((hk15).cell HENV.out.1 (fun h => h))).mono ?_
        rintro e w16 ⟨rfl, hc16⟩
        have hk16 := (hk15).trans hc16
        have hs16 := hc16.size
        have hb17_16 := hc16.blk hb17_15 (fun h => h)
        go_wp2_with fail
        refine wpC_take 13 (v := .tuple #[.agg #[.int .u64 loq, .int .i64 upq], .agg #[.int .u64 lor, .int .i64 upr]]) (by kernel_rfl) rfl rfl (fun _ _ _ h => h) (fun w' hC => by go_simp) ?_
        go_simp
        refine wpC_take 14 (v := .agg #[.int .u64 loq, .int .i64 upq]) (by kernel_rfl) rfl rfl (fun _ _ _ h => h) (fun w' hC => by go_simp) ?_
        go_simp
        refine wpC_take 15 (v := .agg #[.int .u64 lor, .int .i64 upr]) (by kernel_rfl) rfl rfl (fun _ _ _ h => h) (fun w' hC => by go_simp) ?_
        go_simp
        refine wpC_only 16 (by kernel_rfl) hk16 rfl ?_
        go_wp2_with fail
        have hk17 := (hk16).alloc (.cells #[.int .u64 0, .int .i64 0] 42)
        have hb16_17 := blk_new w16 (.cells #[.int .u64 0, .int .i64 0] 42)
        have hb17_17 := blk_alloc hb17_16 (.cells #[.int .u64 0, .int .i64 0] 42)
        generalize w16.alloc (.cells #[.int .u64 0, .int .i64 0] 42) = w17 at *
        have hs17 := blk_lt hb16_17
        have hlv18 := blk_lt hb16_17
        have hlq18 := blk_lt hb17_17
        have hsv18 := hkd.size
        have hne18 : w16.heap.size ≠ wd.heap.size := by omega
        have fv := blk_frozen hb16_17
        have cv0 := blk_cell hb16_17 0
        have cv1 := blk_cell hb16_17 1
        simp only [List.getElem?_toArray, List.getElem?_cons_zero, List.getElem?_cons_succ] at cv0 cv1
        refine wpC_only 18 (by kernel_rfl) hk17 rfl ?_
        go_wp2_with fail
        have hkS : Keep (fun _ => False) w0 ((w17.setCell ⟨w16.heap.size, 0, none⟩ (.int .u64 loq)).setCell ⟨w16.heap.size, 1, none⟩ (.int .i64 upq)) := ((hk17).setCell (.inr (by dsimp only; omega)) _).setCell (.inr (by dsimp only; omega)) _
        have hvS := blk_set (blk_set hb16_17 0 (.int .u64 loq)) 1 (.int .i64 upq)
        have hqS := blk_far (blk_far hb17_17 (p := ⟨w16.heap.size, 0, none⟩) (by dsimp only; omega) (.int .u64 loq)) (p := ⟨w16.heap.size, 1, none⟩) (by dsimp only; omega) (.int .i64 upq)
        generalize (w17.setCell ⟨w16.heap.size, 0, none⟩ (.int .u64 loq)).setCell ⟨w16.heap.size, 1, none⟩ (.int .i64 upq) = wS at *
        have fq := blk_frozen hqS
        have cq0 := blk_cell hqS 0
        have cq1 := blk_cell hqS 1
        simp only [List.getElem?_toArray, List.getElem?_cons_zero, List.getElem?_cons_succ] at cq0 cq1
        refine wpC_only 19 (by kernel_rfl) hkS rfl ?_
        go_wp2_with fail
        have hkE : Keep (fun _ => False) w0 ((wS.setCell ⟨wd.heap.size, 0, none⟩ (.int .u64 lor)).setCell ⟨wd.heap.size, 1, none⟩ (.int .i64 upr)) := (hkS.setCell (.inr (by dsimp only; omega)) _).setCell (.inr (by dsimp only; omega)) _
        have hqE := blk_set (blk_set hqS 0 (.int .u64 lor)) 1 (.int .i64 upr)
        have hvE := blk_far (blk_far hvS (p := ⟨wd.heap.size, 0, none⟩) (by dsimp only; omega) (.int .u64 lor)) (p := ⟨wd.heap.size, 1, none⟩) (by dsimp only; omega) (.int .i64 upr)
        simp at hvE hqE
        refine wpC_stop (by kernel_rfl) hkE ?_
        go_wp2_with fail
        go_meet
        exact ⟨_, _, rfl, rfl, hne18, by omega, by omega, hvE, hqE, hkE⟩
      · go_wp2_with fail
        have hk19 := (hk15).alloc (.cells #[.int .u64 0, .int .i64 0] 42)
        have hb16_19 := blk_new w15 (.cells #[.int .u64 0, .int .i64 0] 42)
        have hb17_19 := blk_alloc hb17_15 (.cells #[.int .u64 0, .int .i64 0] 42)
        generalize w15.alloc (.cells #[.int .u64 0, .int .i64 0] 42) = w19 at *
        have hs19 := blk_lt hb16_19
        refine wpC_only 12 (by kernel_rfl) hk19 rfl ?_
        go_wp2_with fail
        refine (HDiv.out w19 ((hk19).cell HENV.out.1 (fun h => h))).mono ?_
        rintro e w20 ⟨rfl, hc20⟩
        have hk20 := (hk19).trans hc20
        have hs20 := hc20.size
        have hb17_20 := hc20.blk hb17_19 (fun h => h)
        have hb16_20 := hc20.blk hb16_19 (fun h => h)
        go_wp2_with fail
        refine wpC_take 13 (v := .tuple #[.agg #[.int .u64 loq, .int .i64 upq], .agg #[.int .u64 lor, .int .i64 upr]]) (by kernel_rfl) rfl rfl (fun _ _ _ h => h) (fun w' hC => by go_simp) ?_
        go_simp
        refine wpC_take 14 (v := .agg #[.int .u64 loq, .int .i64 upq]) (by kernel_rfl) rfl rfl (fun _ _ _ h => h) (fun w' hC => by go_simp) ?_
        go_simp
        refine wpC_take 15 (v := .agg #[.int .u64 lor, .int .i64 upr]) (by kernel_rfl) rfl rfl (fun _ _ _ h => h) (fun w' hC => by go_simp) ?_
        go_simp
        have hlv21 := blk_lt hb16_20
        have hlq21 := blk_lt hb17_20
        have hsv21 := hkd.size
        have hne21 : w15.heap.size ≠ wd.heap.size := by omega
        have fv := blk_frozen hb16_20
        have cv0 := blk_cell hb16_20 0
        have cv1 := blk_cell hb16_20 1
        simp only [List.getElem?_toArray, List.getElem?_cons_zero, List.getElem?_cons_succ] at cv0 cv1
        refine wpC_only 18 (by kernel_rfl) hk20 rfl ?_
        go_wp2_with fail
        have hkS : Keep (fun _ => False) w0 ((w20.setCell ⟨w15.heap.size, 0, none⟩ (.int .u64 loq)).setCell ⟨w15.heap.size, 1, none⟩ (.int .i64 upq)) := ((hk20).setCell (.inr (by dsimp only; omega)) _).setCell (.inr (by dsimp only; omega)) _
        have hvS := blk_set (blk_set hb16_20 0 (.int .u64 loq)) 1 (.int .i64 upq)
        have hqS := blk_far (blk_far hb17_20 (p := ⟨w15.heap.size, 0, none⟩) (by dsimp only; omega) (.int .u64 loq)) (p := ⟨w15.heap.size, 1, none⟩) (by dsimp only; omega) (.int .i64 upq)
        generalize (w20.setCell ⟨w15.heap.size, 0, none⟩ (.int .u64 loq)).setCell ⟨w15.heap.size, 1, none⟩ (.int .i64 upq) = wS at *
        have fq := blk_frozen hqS
        have cq0 := blk_cell hqS 0
        have cq1 := blk_cell hqS 1
        simp only [List.getElem?_toArray, List.getElem?_cons_zero, List.getElem?_cons_succ] at cq0 cq1
        refine wpC_only 19 (by kernel_rfl) hkS rfl ?_
        go_wp2_with fail
        have hkE : Keep (fun _ => False) w0 ((wS.setCell ⟨wd.heap.size, 0, none⟩ (.int .u64 lor)).setCell ⟨wd.heap.size, 1, none⟩ (.int .i64 upr)) := (hkS.setCell (.inr (by dsimp only; omega)) _).setCell (.inr (by dsimp only; omega)) _
        have hqE := blk_set (blk_set hqS 0 (.int .u64 lor)) 1 (.int .i64 upr)
        have hvE := blk_far (blk_far hvS (p := ⟨wd.heap.size, 0, none⟩) (by dsimp only; omega) (.int .u64 lor)) (p := ⟨wd.heap.size, 1, none⟩) (by dsimp only; omega) (.int .i64 upr)
        simp at hvE hqE
        refine wpC_stop (by kernel_rfl) hkE ?_
        go_wp2_with fail
        go_meet
        exact ⟨_, _, rfl, rfl, hne21, by omega, by omega, hvE, hqE, hkE⟩
  case rest =>
    obtain ⟨vb, qb, rfl, rfl, hne, hv0, hq0, hvb, hqb, hkc⟩ := hcut
    replace rb0 := hkc.cell rb0 (fun h => h)
    replace rb1 := hkc.cell rb1 (fun h => h)
    replace rb2 := hkc.cell rb2 (fun h => h)
    replace rb3 := hkc.cell rb3 (fun h => h)
    replace rb4 := hkc.cell rb4 (fun h => h)
    replace rb5 := hkc.cell rb5 (fun h => h)
    replace rb6 := hkc.cell rb6 (fun h => h)
    replace rb7 := hkc.cell rb7 (fun h => h)
    replace rb8 := hkc.cell rb8 (fun h => h)
    replace rb9 := hkc.cell rb9 (fun h => h)
    replace ib0 := hkc.cell ib0 (fun h => h)
    replace ib3 := hkc.cell ib3 (fun h => h)
    replace ib4 := hkc.cell ib4 (fun h => h)
    replace ib5 := hkc.cell ib5 (fun h => h)
    replace ib8 := hkc.cell ib8 (fun h => h)
    replace ib9 := hkc.cell ib9 (fun h => h)
    replace ob0 := hkc.cell ob0 (fun h => h)
    replace ob1 := hkc.cell ob1 (fun h => h)
    replace ob3 := hkc.cell ob3 (fun h => h)
    replace ob6 := hkc.cell ob6 (fun h => h)
    replace ab0 := hkc.cell ab0 (fun h => h)
    replace ab1 := hkc.cell ab1 (fun h => h)
    replace db0 := hkc.cell db0 (fun h => h)
    replace db1 := hkc.cell db1 (fun h => h)
    have hlv := blk_lt hvb
    have hlq := blk_lt hqb
    have hsc := hkc.size
    have vb0 := blk_cell hvb 0
    have vb1 := blk_cell hvb 1
    have qb0 := blk_cell hqb 0
    have qb1 := blk_cell hqb 1
    simp only [List.getElem?_toArray, List.getElem?_cons_zero, List.getElem?_cons_succ] at vb0 vb1 qb0 qb1
    have HQQ := Lib.hid (And.intro hvb hqb)
    clear hvb hqb
    have hb6 := hkc.blk HB6.out (fun h => h)
    have rf6 := blk_frozen hb6
    have r60 := blk_cell hb6 0
    have r61 := blk_cell hb6 1
    simp only [List.getElem?_toArray, List.getElem?_cons_zero, List.getElem?_cons_succ] at r60 r61
    have HB6c := Lib.hid hb6
    clear hb6
    go_upto_region 3 with fail
    go_cut [30] from 28 to 30 (fun t wx => t = .bool (decide (r = 0)) ∧ wx = wc)
    case first =>
      by_cases hl : lor = 0
      · by_cases hu : upr = 0
        · subst hl hu
          go_wp2_with fail
          go_meet
          rw [decide_eq_true (Classical.byContradiction fun h => HRZ.out.2 h (by simp))]
          trivial
        · subst hl
          go_wp2_with fail
          go_meet
          first | exact ⟨by rw [decide_eq_false (fun h => hu (HRZ.out.1 h).2)], trivial⟩ | exact ⟨by rw [decide_eq_false (fun h => hu (HRZ.out.1 h).2)], rfl⟩
      · go_wp2_with fail
        go_meet
        first | exact ⟨by rw [decide_eq_false (fun h => hl (HRZ.out.1 h).1)], trivial⟩ | exact ⟨by rw [decide_eq_false (fun h => hl (HRZ.out.1 h).1)], rfl⟩
    case rest =>
      obtain ⟨rfl, rfl⟩ := hcut
      by_cases hr0 : r = 0
      · rw [decide_eq_true hr0]
        obtain rfl := HNUM.out.2.2.2.2.2.2.1 hr0
        have hkE : Keep (fun _ => False) w ((wc.setCell ⟨w.heap.size + 1, 0, none⟩ (.int .u64 lox)).setCell ⟨w.heap.size + 1, 1, none⟩ (.int .i64 upx)) := ((hk0.trans hkc).setCell (.inr (by dsimp only; omega)) _).setCell (.inr (by dsimp only; omega)) _
        have hE := blk_set (blk_set HB6c.out 0 (.int .u64 lox)) 1 (.int .i64 upx)
        have t0 := blk_cell hE 0
        have t1 := blk_cell hE 1
        simp at t0 t1
        have HF := Lib.hid hkE
        clear hkE hE
        go_wp2_with fail
        exact bodyPost_ret (v := .agg #[.int .u64 lox, .int .i64 upx]) (by simp [results, Tryz.results41, go_sem, t0, t1]) rfl (.inl ⟨hxp, by rw [HEX.out], HF.out⟩)
      · rw [decide_eq_false hr0]
        go_wp2_with fail
        refine (HOne.out _).mono ?_
        rintro e w1 ⟨rfl, hk1⟩
        have hk5 : Keep (fun _ => False) wc (w1.alloc (.cells #[.int .u64 1, .int .i64 0] 42)) := hk1.alloc _
        clear ab0 ab1 ib3 ib9 r60 r61 rf6
        replace rb1 := hk5.cell rb1 (fun h => h)
        replace rb2 := hk5.cell rb2 (fun h => h)
        replace rb3 := hk5.cell rb3 (fun h => h)
        replace rb4 := hk5.cell rb4 (fun h => h)
        replace rb5 := hk5.cell rb5 (fun h => h)
        replace rb6 := hk5.cell rb6 (fun h => h)
        replace rb7 := hk5.cell rb7 (fun h => h)
        replace rb8 := hk5.cell rb8 (fun h => h)
        replace rb9 := hk5.cell rb9 (fun h => h)
        replace ib0 := hk5.cell ib0 (fun h => h)
        replace ib4 := hk5.cell ib4 (fun h => h)
        replace ib5 := hk5.cell ib5 (fun h => h)
        replace ib8 := hk5.cell ib8 (fun h => h)
        replace ob0 := hk5.cell ob0 (fun h => h)
        replace ob1 := hk5.cell ob1 (fun h => h)
        replace ob3 := hk5.cell ob3 (fun h => h)
        replace ob6 := hk5.cell ob6 (fun h => h)
        replace rb0 := hk5.cell rb0 (fun h => h)
        replace db0 := hk5.cell db0 (fun h => h)
        replace db1 := hk5.cell db1 (fun h => h)
        replace vb0 := hk5.cell vb0 (fun h => h)
        replace vb1 := hk5.cell vb1 (fun h => h)
        replace qb0 := hk5.cell qb0 (fun h => h)
        replace qb1 := hk5.cell qb1 (fun h => h)
        have hob := blk_new w1 (.cells #[.int .u64 1, .int .i64 0] 42)
        have onb0 := blk_cell hob 0
        have onb1 := blk_cell hob 1
        simp only [List.getElem?_toArray, List.getElem?_cons_zero, List.getElem?_cons_succ] at onb0 onb1
        have hv5 := hk5.blk HQQ.out.1 (fun h => h)
        have hs1 := hk1.size
        have HMUL := Lib.hid (HMul.out hr0)
        clear HMul HOne HDiv
        go_upto_if 44 with fail
        generalize w1.alloc (.cells #[.int .u64 1, .int .i64 0] 42) = w5 at *
        generalize w1.heap.size = nb at *
        have nrb : ¬ rb = vb := nlt hrl hv0
        have nib : ¬ ib = vb := nlt hil hv0
        have nob : ¬ ob = vb := nlt hol hv0
        have nqb : ¬ qb = vb := fun h => hne h.symm
        have nnb : ¬ nb = vb := nle hs1 hlv
        have HW5 := Lib.hid (And.intro (hk5.cell (hkc.cell HENV.out.1 (fun h => h)) (fun h => h)) (And.intro ((HENV.out.2.1.keep hkc (fun h => h)).keep hk5 (fun h => h)) (And.intro (hk5.blk (hkc.blk HENV.out.2.2.1 (fun h => h)) (fun h => h)) (And.intro (hk5.blk (hkc.blk HENV.out.2.2.2 (fun h => h)) (fun h => h)) (And.intro (hk5.blk HB6c.out (fun h => h)) ((hk0.trans hkc).trans hk5))))))
        have hC5 : Keep (fun b => b = vb) w5 w5 ∧ w5.heap[vb]? = some (.cells #[.int .u64 loq, .int .i64 upq] 42 (0, 0)) := ⟨Keep.refl _ _, hv5⟩
        have hE : Env ⟨rb, tb, ib, ob, vb, qb, nb, mode, decide (m % 2 = 0), lom, upm, lof, upf, lon, upn, lor, upr, loq, upq⟩ (fun w' => Keep (fun b => b = vb) w5 w' ∧ w'.heap[vb]? = some (.cells #[.int .u64 loq, .int .i64 upq] 42 (0, 0))) :=
          ⟨fun w w' h hk => ⟨h.1.trans (hk.mono (fun _ h => h.elim)), hk.blk h.2 (fun h => h)⟩, fun w h => h.1.cell rb0 nrb, fun w h => h.1.cell rb1 nrb, fun w h => h.1.cell rb2 nrb, fun w h => h.1.cell rb3 nrb, fun w h => h.1.cell rb4 nrb, fun w h => h.1.cell rb5 nrb, fun w h => h.1.cell rb6 nrb, fun w h => h.1.cell rb7 nrb, fun w h => h.1.cell rb8 nrb, fun w h => h.1.cell rb9 nrb, fun w h => h.1.cell ib0 nib, fun w h => h.1.cell ib4 nib, fun w h => h.1.cell ib5 nib, fun w h => h.1.cell ib8 nib, fun w h => h.1.cell ob0 nob, fun w h => h.1.cell ob1 nob, fun w h => h.1.cell ob3 nob, fun w h => h.1.cell ob6 nob, fun w h => h.1.cell qb0 nqb, fun w h => h.1.cell qb1 nqb, fun w h => h.1.cell onb0 nnb, fun w h => h.1.cell onb1 nnb, fun w h => h.2⟩
        refine wp_cut (R := Done rb eb (w.heap.size + 1) (w.heap.size + 1 + 1) vb (fun w' => Keep (fun b => b = vb) w5 w' ∧ w'.heap[vb]? = some (.cells #[.int .u64 lov, .int .i64 upv] 42 (0, 0)))) ?_ ?_
        · intro Qm hQm hQd
          refine act_abs ?_
          intro A0 sz0 df0 hk
          have sz0 : A0.tmps.size = 476 := sz0
          have df0 : A0.defers = [] := df0
          have a0_0 : A0.eval (.tmp 0) = .pointer (some ⟨rb, 0, none⟩) := hk 0
          have a2_0 : A0.eval (.tmp 2) = .pointer (some ⟨eb, 0, none⟩) := hk 2
          have a6_0 : A0.eval (.tmp 6) = .pointer (some ⟨w.heap.size + 1, 0, none⟩) := hk 6
          have a7_0 : A0.eval (.tmp 7) = .pointer (some ⟨w.heap.size + 1 + 1, 0, none⟩) := hk 7
          have a8_0 : A0.eval (.tmp 8) = .pointer (some ⟨vb, 0, none⟩) := hk 8
          have a9_0 : A0.eval (.tmp 9) = .pointer (some ⟨qb, 0, none⟩) := hk 9
          have a10_0 : A0.eval (.tmp 10) = .pointer (some ⟨nb, 0, none⟩) := hk 10
          have a44 : A0.eval (.tmp 44) = .bool (decide (4 ≤ mode)) := hk 44
          clear hk
          clear rb1 rb2 rb3 rb4 rb5 rb6 rb7 rb8 rb9 rb0 ib0 ib4 ib5 ib8 ob0 ob1 ob3 ob6 qb0 qb1 onb0 onb1 vb0 vb1 db0 db1 nrb nib nob nqb nnb hob hv5
          by_cases h4 : 4 ≤ mode
          · rw [decide_eq_true h4] at a44
            refine wp_cond_true a44 ?_
            refine wp_seq_k (fun K hK => ?_)
            refine halfR _ hE (decide (r = m / 2)) (decide (r = -(m / 2))) (fun h => HEH.out.1 (of_decide_eq_true h)) (fun h => HEH.out.2 (of_decide_eq_false h)) (fun h => HEN.out.1 (of_decide_eq_true h)) (fun h => HEN.out.2 (of_decide_eq_false h)) 45 (by unfold Desc; kernel_rfl) (by kernel_rfl) rfl hQm.then (by decide) (by rw [sz0]; decide) a0_0 a9_0 hC5 ?_
            intro A1 w1 hF1 hb1 hC1
            have sz1 := hF1.size.trans sz0
            have df1 := hF1.defers.trans df0
            have a0_1 := (hF1.same 0 (by decide)).trans a0_0
            have a2_1 := (hF1.same 2 (by decide)).trans a2_0
            have a6_1 := (hF1.same 6 (by decide)).trans a6_0
            have a7_1 := (hF1.same 7 (by decide)).trans a7_0
            have a8_1 := (hF1.same 8 (by decide)).trans a8_0
            have a9_1 := (hF1.same 9 (by decide)).trans a9_0
            have a10_1 := (hF1.same 10 (by decide)).trans a10_0
            refine hK _ _ ?_
            clear hK
            by_cases hw : m % 2 = 0 ∧ (r = m / 2 ∨ r = -(m / 2))
            · have hb1 : A1.eval (.tmp 64) = .bool true := hb1.trans (by obtain ⟨ha, hb | hb⟩ := hw <;> simp [ha, hb])
              refine wp_cond_true hb1 ?_
              refine wp_seq_k (fun K hK => ?_)
              refine modeR _ hE 65 (by unfold Desc; kernel_rfl) (by rw [sz1]; decide) a0_1 hC1 ?_
              intro A2 hF2 hb2
              have sz2 := hF2.size.trans sz1
              have df2 := hF2.defers.trans df1
              have a0_2 := (hF2.same 0 (by decide)).trans a0_1
              have a2_2 := (hF2.same 2 (by decide)).trans a2_1
              have a6_2 := (hF2.same 6 (by decide)).trans a6_1
              have a7_2 := (hF2.same 7 (by decide)).trans a7_1
              have a8_2 := (hF2.same 8 (by decide)).trans a8_1
              have a9_2 := (hF2.same 9 (by decide)).trans a9_1
              have a10_2 := (hF2.same 10 (by decide)).trans a10_1
              refine hK _ _ ?_
              clear hK
              refine wp_block ?_
              have h9' := HNUM.out.2.2.1
              have hadjH : adj q r m mode = adjHalf q r mode := adj_half h4 hw
              refine wp_seq_k (fun K hK => ?_)
              refine isR 69 68 4 mode (by unfold Desc; kernel_rfl) (by rw [sz2]; decide) hb2 ?_
              intro A3 hF3 hb3
              have sz3 := hF3.size.trans sz2
              have df3 := hF3.defers.trans df2
              have a0_3 := (hF3.same 0 (by decide)).trans a0_2
              have a2_3 := (hF3.same 2 (by decide)).trans a2_2
              have a6_3 := (hF3.same 6 (by decide)).trans a6_2
              have a7_3 := (hF3.same 7 (by decide)).trans a7_2
              have a8_3 := (hF3.same 8 (by decide)).trans a8_2
              have a9_3 := (hF3.same 9 (by decide)).trans a9_2
              have a10_3 := (hF3.same 10 (by decide)).trans a10_2
              have x68_3 := (hF3.same 68 (by decide)).trans hb2
              refine hK _ _ ?_
              clear hK
              by_cases hm : mode = 4
              · subst hm
                refine wp_cond_true (hb3.trans (by rfl)) ?_
                refine wp_seq_k (fun K hK => ?_)
                refine signR _ hE r HSign.out 71 true (by unfold Desc; kernel_rfl) (by kernel_rfl) rfl (hQm.inBlock).then (by decide) (by rw [sz3]; decide) a0_3 a9_3 hC1 ?_
                intro A4 w4 hF4 hb4 hC4
                have sz4 := hF4.size.trans sz3
                have df4 := hF4.defers.trans df3
                have a0_4 := (hF4.same 0 (by decide)).trans a0_3
                have a2_4 := (hF4.same 2 (by decide)).trans a2_3
                have a6_4 := (hF4.same 6 (by decide)).trans a6_3
                have a7_4 := (hF4.same 7 (by decide)).trans a7_3
                have a8_4 := (hF4.same 8 (by decide)).trans a8_3
                have a9_4 := (hF4.same 9 (by decide)).trans a9_3
                have a10_4 := (hF4.same 10 (by decide)).trans a10_3
                have x68_4 := (hF4.same 68 (by decide)).trans x68_3
                refine hK _ _ ?_
                clear hK
                by_cases hneg : r < 0
                · have hadj : adj q r m 4 = -1 := by rw [hadjH]; simp [adjHalf, hneg]
                  refine wp_cond_true (hb4.trans (by simp [hneg])) ?_
                  refine subR _ hE los ups HSub.out 84 (by unfold Desc; kernel_rfl) (by kernel_rfl) (by kernel_rfl) rfl (hQm.inBlock) (by decide) (by rw [sz4]; decide) a0_4 a8_4 a10_4 hC4 ?_
                  intro A5 w5 hF5 hC5
                  have sz5 := hF5.size.trans sz4
                  have df5 := hF5.defers.trans df4
                  have a0_5 := (hF5.same 0 (by decide)).trans a0_4
                  have a2_5 := (hF5.same 2 (by decide)).trans a2_4
                  have a6_5 := (hF5.same 6 (by decide)).trans a6_4
                  have a7_5 := (hF5.same 7 (by decide)).trans a7_4
                  have a8_5 := (hF5.same 8 (by decide)).trans a8_4
                  have a9_5 := (hF5.same 9 (by decide)).trans a9_4
                  have a10_5 := (hF5.same 10 (by decide)).trans a10_4
                  have x68_5 := (hF5.same 68 (by decide)).trans x68_4
                  obtain ⟨rfl, rfl⟩ := HAM.out hadj
                  have hvE := blk_set (blk_set hC5.2 0 (.int .u64 lov)) 1 (.int .i64 upv)
                  simp at hvE
                  exact hQd _ _ (Done.mk sz5 df5 a0_5 a2_5 a6_5 a7_5 a8_5 ⟨(hC5.1.setCell (.inl rfl) _).setCell (.inl rfl) _, hvE⟩)
                · have hadj : adj q r m 4 = 0 := by rw [hadjH]; simp [adjHalf, hneg]
                  refine wp_cond_false (hb4.trans (by simp [hneg])) ?_
                  refine wp_skip ?_
                  obtain ⟨rfl, rfl⟩ := HAZ.out hadj
                  exact hQd _ _ (Done.mk sz4 df4 a0_4 a2_4 a6_4 a7_4 a8_4 hC4)
              · refine wp_cond_false (hb3.trans (by simp [hm])) ?_
                have hn4 := hm
                clear hm
                refine wp_seq_k (fun K hK => ?_)
                refine isR 97 68 5 mode (by unfold Desc; kernel_rfl) (by rw [sz3]; decide) x68_3 ?_
                intro A6 hF6 hb6
                have sz6 := hF6.size.trans sz3
                have df6 := hF6.defers.trans df3
                have a0_6 := (hF6.same 0 (by decide)).trans a0_3
                have a2_6 := (hF6.same 2 (by decide)).trans a2_3
                have a6_6 := (hF6.same 6 (by decide)).trans a6_3
                have a7_6 := (hF6.same 7 (by decide)).trans a7_3
                have a8_6 := (hF6.same 8 (by decide)).trans a8_3
                have a9_6 := (hF6.same 9 (by decide)).trans a9_3
                have a10_6 := (hF6.same 10 (by decide)).trans a10_3
                have x68_6 := (hF6.same 68 (by decide)).trans x68_3
                refine hK _ _ ?_
                clear hK
                by_cases hm : mode = 5
                · subst hm
                  refine wp_cond_true (hb6.trans (by rfl)) ?_
                  refine wp_seq_k (fun K hK => ?_)
                  refine signR _ hE r HSign.out 99 false (by unfold Desc; kernel_rfl) (by kernel_rfl) rfl (hQm.inBlock).then (by decide) (by rw [sz6]; decide) a0_6 a9_6 hC1 ?_
                  intro A7 w7 hF7 hb7 hC7
                  have sz7 := hF7.size.trans sz6
                  have df7 := hF7.defers.trans df6
                  have a0_7 := (hF7.same 0 (by decide)).trans a0_6
                  have a2_7 := (hF7.same 2 (by decide)).trans a2_6
                  have a6_7 := (hF7.same 6 (by decide)).trans a6_6
                  have a7_7 := (hF7.same 7 (by decide)).trans a7_6
                  have a8_7 := (hF7.same 8 (by decide)).trans a8_6
                  have a9_7 := (hF7.same 9 (by decide)).trans a9_6
                  have a10_7 := (hF7.same 10 (by decide)).trans a10_6
                  have x68_7 := (hF7.same 68 (by decide)).trans x68_6
                  refine hK _ _ ?_
                  clear hK
                  by_cases hneg : r < 0
                  · have hadj : adj q r m 5 = 0 := by rw [hadjH]; simp [adjHalf, hneg]
                    refine wp_cond_false (hb7.trans (by simp [Int.not_le.2 hneg])) ?_
                    refine wp_skip ?_
                    obtain ⟨rfl, rfl⟩ := HAZ.out hadj
                    exact hQd _ _ (Done.mk sz7 df7 a0_7 a2_7 a6_7 a7_7 a8_7 hC7)
                  · have hadj : adj q r m 5 = 1 := by rw [hadjH]; simp [adjHalf, hneg]
                    refine wp_cond_true (hb7.trans (by simp [Int.not_lt.1 hneg])) ?_
                    refine addR _ hE loa upa HAdd.out 112 (by unfold Desc; kernel_rfl) (by kernel_rfl) (by kernel_rfl) rfl (hQm.inBlock) (by decide) (by rw [sz7]; decide) a0_7 a8_7 a10_7 hC7 ?_
                    intro A8 w8 hF8 hC8
                    have sz8 := hF8.size.trans sz7
                    have df8 := hF8.defers.trans df7
                    have a0_8 := (hF8.same 0 (by decide)).trans a0_7
                    have a2_8 := (hF8.same 2 (by decide)).trans a2_7
                    have a6_8 := (hF8.same 6 (by decide)).trans a6_7
                    have a7_8 := (hF8.same 7 (by decide)).trans a7_7
                    have a8_8 := (hF8.same 8 (by decide)).trans a8_7
                    have a9_8 := (hF8.same 9 (by decide)).trans a9_7
                    have a10_8 := (hF8.same 10 (by decide)).trans a10_7
                    have x68_8 := (hF8.same 68 (by decide)).trans x68_7
                    obtain ⟨rfl, rfl⟩ := HAP.out hadj
                    have hvE := blk_set (blk_set hC8.2 0 (.int .u64 lov)) 1 (.int .i64 upv)
                    simp at hvE
                    exact hQd _ _ (Done.mk sz8 df8 a0_8 a2_8 a6_8 a7_8 a8_8 ⟨(hC8.1.setCell (.inl rfl) _).setCell (.inl rfl) _, hvE⟩)
                · refine wp_cond_false (hb6.trans (by simp [hm])) ?_
                  have hn5 := hm
                  clear hm
                  refine wp_seq_k (fun K hK => ?_)
                  refine isR 125 68 6 mode (by unfold Desc; kernel_rfl) (by rw [sz6]; decide) x68_6 ?_
                  intro A9 hF9 hb9
                  have sz9 := hF9.size.trans sz6
                  have df9 := hF9.defers.trans df6
                  have a0_9 := (hF9.same 0 (by decide)).trans a0_6
                  have a2_9 := (hF9.same 2 (by decide)).trans a2_6
                  have a6_9 := (hF9.same 6 (by decide)).trans a6_6
                  have a7_9 := (hF9.same 7 (by decide)).trans a7_6
                  have a8_9 := (hF9.same 8 (by decide)).trans a8_6
                  have a9_9 := (hF9.same 9 (by decide)).trans a9_6
                  have a10_9 := (hF9.same 10 (by decide)).trans a10_6
                  have x68_9 := (hF9.same 68 (by decide)).trans x68_6
                  refine hK _ _ ?_
                  clear hK
                  by_cases hm : mode = 6
                  · subst hm
                    refine wp_cond_true (hb9.trans (by rfl)) ?_
                    have hadj : adj q r m 6 = 0 := by rw [hadjH]; rfl
                    refine wp_skip ?_
                    obtain ⟨rfl, rfl⟩ := HAZ.out hadj
                    exact hQd _ _ (Done.mk sz9 df9 a0_9 a2_9 a6_9 a7_9 a8_9 hC1)
                  · refine wp_cond_false (hb9.trans (by simp [hm])) ?_
                    have hn6 := hm
                    clear hm
                    refine wp_seq_k (fun K hK => ?_)
                    refine isR 127 68 7 mode (by unfold Desc; kernel_rfl) (by rw [sz9]; decide) x68_9 ?_
                    intro A10 hF10 hb10
                    have sz10 := hF10.size.trans sz9
                    have df10 := hF10.defers.trans df9
                    have a0_10 := (hF10.same 0 (by decide)).trans a0_9
                    have a2_10 := (hF10.same 2 (by decide)).trans a2_9
                    have a6_10 := (hF10.same 6 (by decide)).trans a6_9
                    have a7_10 := (hF10.same 7 (by decide)).trans a7_9
                    have a8_10 := (hF10.same 8 (by decide)).trans a8_9
                    have a9_10 := (hF10.same 9 (by decide)).trans a9_9
                    have a10_10 := (hF10.same 10 (by decide)).trans a10_9
                    have x68_10 := (hF10.same 68 (by decide)).trans x68_9
                    refine hK _ _ ?_
                    clear hK
                    by_cases hm : mode = 7
                    · subst hm
                      refine wp_cond_true (hb10.trans (by rfl)) ?_
                      refine wp_seq_k (fun K hK => ?_)
                      refine signR _ hE r HSign.out 129 false (by unfold Desc; kernel_rfl) (by kernel_rfl) rfl (hQm.inBlock).then (by decide) (by rw [sz10]; decide) a0_10 a9_10 hC1 ?_
                      intro A11 w11 hF11 hb11 hC11
                      have sz11 := hF11.size.trans sz10
                      have df11 := hF11.defers.trans df10
                      have a0_11 := (hF11.same 0 (by decide)).trans a0_10
                      have a2_11 := (hF11.same 2 (by decide)).trans a2_10
                      have a6_11 := (hF11.same 6 (by decide)).trans a6_10
                      have a7_11 := (hF11.same 7 (by decide)).trans a7_10
                      have a8_11 := (hF11.same 8 (by decide)).trans a8_10
                      have a9_11 := (hF11.same 9 (by decide)).trans a9_10
                      have a10_11 := (hF11.same 10 (by decide)).trans a10_10
                      have x68_11 := (hF11.same 68 (by decide)).trans x68_10
                      refine hK _ _ ?_
                      clear hK
                      by_cases hneg : r < 0
                      · have hadj : adj q r m 7 = -1 := by rw [hadjH]; simp [adjHalf, hneg]
                        refine wp_cond_false (hb11.trans (by simp [Int.not_le.2 hneg])) ?_
                        refine subR _ hE los ups HSub.out 155 (by unfold Desc; kernel_rfl) (by kernel_rfl) (by kernel_rfl) rfl (hQm.inBlock) (by decide) (by rw [sz11]; decide) a0_11 a8_11 a10_11 hC11 ?_
                        intro A12 w12 hF12 hC12
                        have sz12 := hF12.size.trans sz11
                        have df12 := hF12.defers.trans df11
                        have a0_12 := (hF12.same 0 (by decide)).trans a0_11
                        have a2_12 := (hF12.same 2 (by decide)).trans a2_11
                        have a6_12 := (hF12.same 6 (by decide)).trans a6_11
                        have a7_12 := (hF12.same 7 (by decide)).trans a7_11
                        have a8_12 := (hF12.same 8 (by decide)).trans a8_11
                        have a9_12 := (hF12.same 9 (by decide)).trans a9_11
                        have a10_12 := (hF12.same 10 (by decide)).trans a10_11
                        have x68_12 := (hF12.same 68 (by decide)).trans x68_11
                        obtain ⟨rfl, rfl⟩ := HAM.out hadj
                        have hvE := blk_set (blk_set hC12.2 0 (.int .u64 lov)) 1 (.int .i64 upv)
                        simp at hvE
                        exact hQd _ _ (Done.mk sz12 df12 a0_12 a2_12 a6_12 a7_12 a8_12 ⟨(hC12.1.setCell (.inl rfl) _).setCell (.inl rfl) _, hvE⟩)
                      · have hadj : adj q r m 7 = 1 := by rw [hadjH]; simp [adjHalf, hneg]
                        refine wp_cond_true (hb11.trans (by simp [Int.not_lt.1 hneg])) ?_
                        refine addR _ hE loa upa HAdd.out 142 (by unfold Desc; kernel_rfl) (by kernel_rfl) (by kernel_rfl) rfl (hQm.inBlock) (by decide) (by rw [sz11]; decide) a0_11 a8_11 a10_11 hC11 ?_
                        intro A13 w13 hF13 hC13
                        have sz13 := hF13.size.trans sz11
                        have df13 := hF13.defers.trans df11
                        have a0_13 := (hF13.same 0 (by decide)).trans a0_11
                        have a2_13 := (hF13.same 2 (by decide)).trans a2_11
                        have a6_13 := (hF13.same 6 (by decide)).trans a6_11
                        have a7_13 := (hF13.same 7 (by decide)).trans a7_11
                        have a8_13 := (hF13.same 8 (by decide)).trans a8_11
                        have a9_13 := (hF13.same 9 (by decide)).trans a9_11
                        have a10_13 := (hF13.same 10 (by decide)).trans a10_11
                        have x68_13 := (hF13.same 68 (by decide)).trans x68_11
                        obtain ⟨rfl, rfl⟩ := HAP.out hadj
                        have hvE := blk_set (blk_set hC13.2 0 (.int .u64 lov)) 1 (.int .i64 upv)
                        simp at hvE
                        exact hQd _ _ (Done.mk sz13 df13 a0_13 a2_13 a6_13 a7_13 a8_13 ⟨(hC13.1.setCell (.inl rfl) _).setCell (.inl rfl) _, hvE⟩)
                    · refine wp_cond_false (hb10.trans (by simp [hm])) ?_
                      have hn7 := hm
                      clear hm
                      refine wp_seq_k (fun K hK => ?_)
                      refine isR 168 68 8 mode (by unfold Desc; kernel_rfl) (by rw [sz10]; decide) x68_10 ?_
                      intro A14 hF14 hb14
                      have sz14 := hF14.size.trans sz10
                      have df14 := hF14.defers.trans df10
                      have a0_14 := (hF14.same 0 (by decide)).trans a0_10
                      have a2_14 := (hF14.same 2 (by decide)).trans a2_10
                      have a6_14 := (hF14.same 6 (by decide)).trans a6_10
                      have a7_14 := (hF14.same 7 (by decide)).trans a7_10
                      have a8_14 := (hF14.same 8 (by decide)).trans a8_10
                      have a9_14 := (hF14.same 9 (by decide)).trans a9_10
                      have a10_14 := (hF14.same 10 (by decide)).trans a10_10
                      have x68_14 := (hF14.same 68 (by decide)).trans x68_10
                      refine hK _ _ ?_
                      clear hK
                      by_cases hm : mode = 8
                      · subst hm
                        refine wp_cond_true (hb14.trans (by rfl)) ?_
                        refine wp_seq_k (fun K hK => ?_)
                        refine lowR _ hE HLow.out 170 true (by unfold Desc; kernel_rfl) (by kernel_rfl) rfl (hQm.inBlock).then (by decide) (by rw [sz14]; decide) a0_14 a8_14 hC1 ?_
                        intro A15 w15 hF15 hb15 hC15
                        have sz15 := hF15.size.trans sz14
                        have df15 := hF15.defers.trans df14
                        have a0_15 := (hF15.same 0 (by decide)).trans a0_14
                        have a2_15 := (hF15.same 2 (by decide)).trans a2_14
                        have a6_15 := (hF15.same 6 (by decide)).trans a6_14
                        have a7_15 := (hF15.same 7 (by decide)).trans a7_14
                        have a8_15 := (hF15.same 8 (by decide)).trans a8_14
                        have a9_15 := (hF15.same 9 (by decide)).trans a9_14
                        have a10_15 := (hF15.same 10 (by decide)).trans a10_14
                        have x68_15 := (hF15.same 68 (by decide)).trans x68_14
                        refine hK _ _ ?_
                        clear hK
                        by_cases hpar : q % 2 = 0
                        · refine wp_cond_false (hb15.trans (by simp [HPQ.out.trans hpar])) ?_
                          have hadj : adj q r m 8 = 0 := by rw [hadjH]; simp [adjHalf, hpar]
                          refine wp_skip ?_
                          obtain ⟨rfl, rfl⟩ := HAZ.out hadj
                          exact hQd _ _ (Done.mk sz15 df15 a0_15 a2_15 a6_15 a7_15 a8_15 hC15)
                        · refine wp_cond_true (hb15.trans (by simp [HPQ.out.trans (odd_of hpar)])) ?_
                          refine wp_seq_k (fun K hK => ?_)
                          refine signR _ hE r HSign.out 181 false (by unfold Desc; kernel_rfl) (by kernel_rfl) rfl (hQm.inBlock).then (by decide) (by rw [sz15]; decide) a0_15 a9_15 hC15 ?_
                          intro A16 w16 hF16 hb16 hC16
                          have sz16 := hF16.size.trans sz15
                          have df16 := hF16.defers.trans df15
                          have a0_16 := (hF16.same 0 (by decide)).trans a0_15
                          have a2_16 := (hF16.same 2 (by decide)).trans a2_15
                          have a6_16 := (hF16.same 6 (by decide)).trans a6_15
                          have a7_16 := (hF16.same 7 (by decide)).trans a7_15
                          have a8_16 := (hF16.same 8 (by decide)).trans a8_15
                          have a9_16 := (hF16.same 9 (by decide)).trans a9_15
                          have a10_16 := (hF16.same 10 (by decide)).trans a10_15
                          have x68_16 := (hF16.same 68 (by decide)).trans x68_15
                          refine hK _ _ ?_
                          clear hK
                          by_cases hneg : r < 0
                          · have hadj : adj q r m 8 = -1 := by rw [hadjH]; simp [adjHalf, hneg, hpar]
                            refine wp_cond_false (hb16.trans (by simp [Int.not_le.2 hneg])) ?_
                            refine subR _ hE los ups HSub.out 207 (by unfold Desc; kernel_rfl) (by kernel_rfl) (by kernel_rfl) rfl (hQm.inBlock) (by decide) (by rw [sz16]; decide) a0_16 a8_16 a10_16 hC16 ?_
                            intro A17 w17 hF17 hC17
                            have sz17 := hF17.size.trans sz16
                            have df17 := hF17.defers.trans df16
                            have a0_17 := (hF17.same 0 (by decide)).trans a0_16
                            have a2_17 := (hF17.same 2 (by decide)).trans a2_16
                            have a6_17 := (hF17.same 6 (by decide)).trans a6_16
                            have a7_17 := (hF17.same 7 (by decide)).trans a7_16
                            have a8_17 := (hF17.same 8 (by decide)).trans a8_16
                            have a9_17 := (hF17.same 9 (by decide)).trans a9_16
                            have a10_17 := (hF17.same 10 (by decide)).trans a10_16
                            have x68_17 := (hF17.same 68 (by decide)).trans x68_16
                            obtain ⟨rfl, rfl⟩ := HAM.out hadj
                            have hvE := blk_set (blk_set hC17.2 0 (.int .u64 lov)) 1 (.int .i64 upv)
                            simp at hvE
                            exact hQd _ _ (Done.mk sz17 df17 a0_17 a2_17 a6_17 a7_17 a8_17 ⟨(hC17.1.setCell (.inl rfl) _).setCell (.inl rfl) _, hvE⟩)
                          · have hadj : adj q r m 8 = 1 := by rw [hadjH]; simp [adjHalf, hneg, hpar]
                            refine wp_cond_true (hb16.trans (by simp [Int.not_lt.1 hneg])) ?_
                            refine addR _ hE loa upa HAdd.out 194 (by unfold Desc; kernel_rfl) (by kernel_rfl) (by kernel_rfl) rfl (hQm.inBlock) (by decide) (by rw [sz16]; decide) a0_16 a8_16 a10_16 hC16 ?_
                            intro A18 w18 hF18 hC18
                            have sz18 := hF18.size.trans sz16
                            have df18 := hF18.defers.trans df16
                            have a0_18 := (hF18.same 0 (by decide)).trans a0_16
                            have a2_18 := (hF18.same 2 (by decide)).trans a2_16
                            have a6_18 := (hF18.same 6 (by decide)).trans a6_16
                            have a7_18 := (hF18.same 7 (by decide)).trans a7_16
                            have a8_18 := (hF18.same 8 (by decide)).trans a8_16
                            have a9_18 := (hF18.same 9 (by decide)).trans a9_16
                            have a10_18 := (hF18.same 10 (by decide)).trans a10_16
                            have x68_18 := (hF18.same 68 (by decide)).trans x68_16
                            obtain ⟨rfl, rfl⟩ := HAP.out hadj
                            have hvE := blk_set (blk_set hC18.2 0 (.int .u64 lov)) 1 (.int .i64 upv)
                            simp at hvE
                            exact hQd _ _ (Done.mk sz18 df18 a0_18 a2_18 a6_18 a7_18 a8_18 ⟨(hC18.1.setCell (.inl rfl) _).setCell (.inl rfl) _, hvE⟩)
                      · refine wp_cond_false (hb14.trans (by simp [hm])) ?_
                        have hn8 := hm
                        clear hm
                        refine wp_seq_k (fun K hK => ?_)
                        refine isR 220 68 9 mode (by unfold Desc; kernel_rfl) (by rw [sz14]; decide) x68_14 ?_
                        intro A19 hF19 hb19
                        have sz19 := hF19.size.trans sz14
                        have df19 := hF19.defers.trans df14
                        have a0_19 := (hF19.same 0 (by decide)).trans a0_14
                        have a2_19 := (hF19.same 2 (by decide)).trans a2_14
                        have a6_19 := (hF19.same 6 (by decide)).trans a6_14
                        have a7_19 := (hF19.same 7 (by decide)).trans a7_14
                        have a8_19 := (hF19.same 8 (by decide)).trans a8_14
                        have a9_19 := (hF19.same 9 (by decide)).trans a9_14
                        have a10_19 := (hF19.same 10 (by decide)).trans a10_14
                        have x68_19 := (hF19.same 68 (by decide)).trans x68_14
                        refine hK _ _ ?_
                        clear hK
                        by_cases hm : mode = 9
                        · subst hm
                          refine wp_cond_true (hb19.trans (by rfl)) ?_
                          refine wp_seq_k (fun K hK => ?_)
                          refine lowR _ hE HLow.out 222 false (by unfold Desc; kernel_rfl) (by kernel_rfl) rfl (hQm.inBlock).then (by decide) (by rw [sz19]; decide) a0_19 a8_19 hC1 ?_
                          intro A20 w20 hF20 hb20 hC20
                          have sz20 := hF20.size.trans sz19
                          have df20 := hF20.defers.trans df19
                          have a0_20 := (hF20.same 0 (by decide)).trans a0_19
                          have a2_20 := (hF20.same 2 (by decide)).trans a2_19
                          have a6_20 := (hF20.same 6 (by decide)).trans a6_19
                          have a7_20 := (hF20.same 7 (by decide)).trans a7_19
                          have a8_20 := (hF20.same 8 (by decide)).trans a8_19
                          have a9_20 := (hF20.same 9 (by decide)).trans a9_19
                          have a10_20 := (hF20.same 10 (by decide)).trans a10_19
                          have x68_20 := (hF20.same 68 (by decide)).trans x68_19
                          refine hK _ _ ?_
                          clear hK
                          by_cases hpar : q % 2 = 0
                          · refine wp_cond_true (hb20.trans (by simp [HPQ.out.trans hpar])) ?_
                            refine wp_seq_k (fun K hK => ?_)
                            refine signR _ hE r HSign.out 233 false (by unfold Desc; kernel_rfl) (by kernel_rfl) rfl (hQm.inBlock).then (by decide) (by rw [sz20]; decide) a0_20 a9_20 hC20 ?_
                            intro A21 w21 hF21 hb21 hC21
                            have sz21 := hF21.size.trans sz20
                            have df21 := hF21.defers.trans df20
                            have a0_21 := (hF21.same 0 (by decide)).trans a0_20
                            have a2_21 := (hF21.same 2 (by decide)).trans a2_20
                            have a6_21 := (hF21.same 6 (by decide)).trans a6_20
                            have a7_21 := (hF21.same 7 (by decide)).trans a7_20
                            have a8_21 := (hF21.same 8 (by decide)).trans a8_20
                            have a9_21 := (hF21.same 9 (by decide)).trans a9_20
                            have a10_21 := (hF21.same 10 (by decide)).trans a10_20
                            have x68_21 := (hF21.same 68 (by decide)).trans x68_20
                            refine hK _ _ ?_
                            clear hK
                            by_cases hneg : r < 0
                            · have hadj : adj q r m 9 = -1 := by rw [hadjH]; simp [adjHalf, hneg, hpar]
                              refine wp_cond_false (hb21.trans (by simp [Int.not_le.2 hneg])) ?_
                              refine subR _ hE los ups HSub.out 259 (by unfold Desc; kernel_rfl) (by kernel_rfl) (by kernel_rfl) rfl (hQm.inBlock) (by decide) (by rw [sz21]; decide) a0_21 a8_21 a10_21 hC21 ?_
                              intro A22 w22 hF22 hC22
                              have sz22 := hF22.size.trans sz21
                              have df22 := hF22.defers.trans df21
                              have a0_22 := (hF22.same 0 (by decide)).trans a0_21
                              have a2_22 := (hF22.same 2 (by decide)).trans a2_21
                              have a6_22 := (hF22.same 6 (by decide)).trans a6_21
                              have a7_22 := (hF22.same 7 (by decide)).trans a7_21
                              have a8_22 := (hF22.same 8 (by decide)).trans a8_21
                              have a9_22 := (hF22.same 9 (by decide)).trans a9_21
                              have a10_22 := (hF22.same 10 (by decide)).trans a10_21
                              have x68_22 := (hF22.same 68 (by decide)).trans x68_21
                              obtain ⟨rfl, rfl⟩ := HAM.out hadj
                              have hvE := blk_set (blk_set hC22.2 0 (.int .u64 lov)) 1 (.int .i64 upv)
                              simp at hvE
                              exact hQd _ _ (Done.mk sz22 df22 a0_22 a2_22 a6_22 a7_22 a8_22 ⟨(hC22.1.setCell (.inl rfl) _).setCell (.inl rfl) _, hvE⟩)
                            · have hadj : adj q r m 9 = 1 := by rw [hadjH]; simp [adjHalf, hneg, hpar]
                              refine wp_cond_true (hb21.trans (by simp [Int.not_lt.1 hneg])) ?_
                              refine addR _ hE loa upa HAdd.out 246 (by unfold Desc; kernel_rfl) (by kernel_rfl) (by kernel_rfl) rfl (hQm.inBlock) (by decide) (by rw [sz21]; decide) a0_21 a8_21 a10_21 hC21 ?_
                              intro A23 w23 hF23 hC23
                              have sz23 := hF23.size.trans sz21
                              have df23 := hF23.defers.trans df21
                              have a0_23 := (hF23.same 0 (by decide)).trans a0_21
                              have a2_23 := (hF23.same 2 (by decide)).trans a2_21
                              have a6_23 := (hF23.same 6 (by decide)).trans a6_21
                              have a7_23 := (hF23.same 7 (by decide)).trans a7_21
                              have a8_23 := (hF23.same 8 (by decide)).trans a8_21
                              have a9_23 := (hF23.same 9 (by decide)).trans a9_21
                              have a10_23 := (hF23.same 10 (by decide)).trans a10_21
                              have x68_23 := (hF23.same 68 (by decide)).trans x68_21
                              obtain ⟨rfl, rfl⟩ := HAP.out hadj
                              have hvE := blk_set (blk_set hC23.2 0 (.int .u64 lov)) 1 (.int .i64 upv)
                              simp at hvE
                              exact hQd _ _ (Done.mk sz23 df23 a0_23 a2_23 a6_23 a7_23 a8_23 ⟨(hC23.1.setCell (.inl rfl) _).setCell (.inl rfl) _, hvE⟩)
                          · refine wp_cond_false (hb20.trans (by simp [HPQ.out.trans (odd_of hpar)])) ?_
                            have hadj : adj q r m 9 = 0 := by rw [hadjH]; simp [adjHalf, hpar]
                            refine wp_skip ?_
                            obtain ⟨rfl, rfl⟩ := HAZ.out hadj
                            exact hQd _ _ (Done.mk sz20 df20 a0_20 a2_20 a6_20 a7_20 a8_20 hC20)
                        · exact (no_hi h4 h9' hn4 hn5 hn6 hn7 hn8 hm).elim
            · have hb1 : A1.eval (.tmp 64) = .bool false := hb1.trans (by simp; intro h1 ; exact ⟨fun h2 => hw ⟨h1, .inl h2⟩, fun h2 => hw ⟨h1, .inr h2⟩⟩)
              refine wp_cond_false hb1 ?_
              have hadjN : adj q r m mode = adjNear r m := adj_near h4 hw
              refine wp_seq_k (fun K hK => ?_)
              refine signR _ hE r HSign.out 272 false (by unfold Desc; kernel_rfl) (by kernel_rfl) rfl hQm.then (by decide) (by rw [sz1]; decide) a0_1 a9_1 hC1 ?_
              intro A24 w24 hF24 hb24 hC24
              have sz24 := hF24.size.trans sz1
              have df24 := hF24.defers.trans df1
              have a0_24 := (hF24.same 0 (by decide)).trans a0_1
              have a2_24 := (hF24.same 2 (by decide)).trans a2_1
              have a6_24 := (hF24.same 6 (by decide)).trans a6_1
              have a7_24 := (hF24.same 7 (by decide)).trans a7_1
              have a8_24 := (hF24.same 8 (by decide)).trans a8_1
              have a9_24 := (hF24.same 9 (by decide)).trans a9_1
              have a10_24 := (hF24.same 10 (by decide)).trans a10_1
              refine hK _ _ ?_
              clear hK
              by_cases hneg : r < 0
              · refine wp_cond_false (hb24.trans (by simp [Int.not_le.2 hneg])) ?_
                refine wp_seq_k (fun K hK => ?_)
                refine lessB _ hE _ HLess2.out 311 (by unfold Desc; kernel_rfl) (by kernel_rfl) rfl hQm.then (by decide) (by rw [sz24]; decide) a0_24 a9_24 hC24 ?_
                intro A25 w25 hF25 hb25 hC25
                have sz25 := hF25.size.trans sz24
                have df25 := hF25.defers.trans df24
                have a0_25 := (hF25.same 0 (by decide)).trans a0_24
                have a2_25 := (hF25.same 2 (by decide)).trans a2_24
                have a6_25 := (hF25.same 6 (by decide)).trans a6_24
                have a7_25 := (hF25.same 7 (by decide)).trans a7_24
                have a8_25 := (hF25.same 8 (by decide)).trans a8_24
                have a9_25 := (hF25.same 9 (by decide)).trans a9_24
                have a10_25 := (hF25.same 10 (by decide)).trans a10_24
                refine hK _ _ ?_
                clear hK
                by_cases hl : r < -(m / 2)
                · refine wp_cond_true (hb25.trans (by rw [decide_eq_true hl])) ?_
                  have hadj : adj q r m mode = -1 := by rw [hadjN]; unfold adjNear; rw [if_pos hneg, if_pos hl]
                  refine subR _ hE los ups HSub.out 324 (by unfold Desc; kernel_rfl) (by kernel_rfl) (by kernel_rfl) rfl hQm (by decide) (by rw [sz25]; decide) a0_25 a8_25 a10_25 hC25 ?_
                  intro A26 w26 hF26 hC26
                  have sz26 := hF26.size.trans sz25
                  have df26 := hF26.defers.trans df25
                  have a0_26 := (hF26.same 0 (by decide)).trans a0_25
                  have a2_26 := (hF26.same 2 (by decide)).trans a2_25
                  have a6_26 := (hF26.same 6 (by decide)).trans a6_25
                  have a7_26 := (hF26.same 7 (by decide)).trans a7_25
                  have a8_26 := (hF26.same 8 (by decide)).trans a8_25
                  have a9_26 := (hF26.same 9 (by decide)).trans a9_25
                  have a10_26 := (hF26.same 10 (by decide)).trans a10_25
                  obtain ⟨rfl, rfl⟩ := HAM.out hadj
                  have hvE := blk_set (blk_set hC26.2 0 (.int .u64 lov)) 1 (.int .i64 upv)
                  simp at hvE
                  exact hQd _ _ (Done.mk sz26 df26 a0_26 a2_26 a6_26 a7_26 a8_26 ⟨(hC26.1.setCell (.inl rfl) _).setCell (.inl rfl) _, hvE⟩)
                · refine wp_cond_false (hb25.trans (by rw [decide_eq_false hl])) ?_
                  have hadj : adj q r m mode = 0 := by rw [hadjN]; unfold adjNear; rw [if_pos hneg, if_neg hl]
                  refine wp_skip ?_
                  obtain ⟨rfl, rfl⟩ := HAZ.out hadj
                  exact hQd _ _ (Done.mk sz25 df25 a0_25 a2_25 a6_25 a7_25 a8_25 hC25)
              · refine wp_cond_true (hb24.trans (by simp [Int.not_lt.1 hneg])) ?_
                refine wp_seq_k (fun K hK => ?_)
                refine lessA _ hE _ HLess1.out 285 (by unfold Desc; kernel_rfl) (by kernel_rfl) rfl hQm.then (by decide) (by rw [sz24]; decide) a0_24 a9_24 hC24 ?_
                intro A27 w27 hF27 hb27 hC27
                have sz27 := hF27.size.trans sz24
                have df27 := hF27.defers.trans df24
                have a0_27 := (hF27.same 0 (by decide)).trans a0_24
                have a2_27 := (hF27.same 2 (by decide)).trans a2_24
                have a6_27 := (hF27.same 6 (by decide)).trans a6_24
                have a7_27 := (hF27.same 7 (by decide)).trans a7_24
                have a8_27 := (hF27.same 8 (by decide)).trans a8_24
                have a9_27 := (hF27.same 9 (by decide)).trans a9_24
                have a10_27 := (hF27.same 10 (by decide)).trans a10_24
                refine hK _ _ ?_
                clear hK
                by_cases hl : m / 2 < r
                · refine wp_cond_true (hb27.trans (by rw [decide_eq_true hl])) ?_
                  have hadj : adj q r m mode = 1 := by rw [hadjN]; unfold adjNear; rw [if_neg hneg, if_pos hl]
                  refine addR _ hE loa upa HAdd.out 298 (by unfold Desc; kernel_rfl) (by kernel_rfl) (by kernel_rfl) rfl hQm (by decide) (by rw [sz27]; decide) a0_27 a8_27 a10_27 hC27 ?_
                  intro A28 w28 hF28 hC28
                  have sz28 := hF28.size.trans sz27
                  have df28 := hF28.defers.trans df27
                  have a0_28 := (hF28.same 0 (by decide)).trans a0_27
                  have a2_28 := (hF28.same 2 (by decide)).trans a2_27
                  have a6_28 := (hF28.same 6 (by decide)).trans a6_27
                  have a7_28 := (hF28.same 7 (by decide)).trans a7_27
                  have a8_28 := (hF28.same 8 (by decide)).trans a8_27
                  have a9_28 := (hF28.same 9 (by decide)).trans a9_27
                  have a10_28 := (hF28.same 10 (by decide)).trans a10_27
                  obtain ⟨rfl, rfl⟩ := HAP.out hadj
                  have hvE := blk_set (blk_set hC28.2 0 (.int .u64 lov)) 1 (.int .i64 upv)
                  simp at hvE
                  exact hQd _ _ (Done.mk sz28 df28 a0_28 a2_28 a6_28 a7_28 a8_28 ⟨(hC28.1.setCell (.inl rfl) _).setCell (.inl rfl) _, hvE⟩)
                · refine wp_cond_false (hb27.trans (by rw [decide_eq_false hl])) ?_
                  have hadj : adj q r m mode = 0 := by rw [hadjN]; unfold adjNear; rw [if_neg hneg, if_neg hl]
                  refine wp_skip ?_
                  obtain ⟨rfl, rfl⟩ := HAZ.out hadj
                  exact hQd _ _ (Done.mk sz27 df27 a0_27 a2_27 a6_27 a7_27 a8_27 hC27)
          · rw [decide_eq_false h4] at a44
            refine wp_cond_false a44 ?_
            refine wp_seq_k (fun K hK => ?_)
            refine modeR _ hE 337 (by unfold Desc; kernel_rfl) (by rw [sz0]; decide) a0_0 hC5 ?_
            intro A29 hF29 hb29
            have sz29 := hF29.size.trans sz0
            have df29 := hF29.defers.trans df0
            have a0_29 := (hF29.same 0 (by decide)).trans a0_0
            have a2_29 := (hF29.same 2 (by decide)).trans a2_0
            have a6_29 := (hF29.same 6 (by decide)).trans a6_0
            have a7_29 := (hF29.same 7 (by decide)).trans a7_0
            have a8_29 := (hF29.same 8 (by decide)).trans a8_0
            have a9_29 := (hF29.same 9 (by decide)).trans a9_0
            have a10_29 := (hF29.same 10 (by decide)).trans a10_0
            refine hK _ _ ?_
            clear hK
            refine wp_block ?_
            have h0' := HNUM.out.2.1
            have hadjF : adj q r m mode = adjFull r mode := adj_full h4
            refine wp_seq_k (fun K hK => ?_)
            refine isR 341 340 0 mode (by unfold Desc; kernel_rfl) (by rw [sz29]; decide) hb29 ?_
            intro A30 hF30 hb30
            have sz30 := hF30.size.trans sz29
            have df30 := hF30.defers.trans df29
            have a0_30 := (hF30.same 0 (by decide)).trans a0_29
            have a2_30 := (hF30.same 2 (by decide)).trans a2_29
            have a6_30 := (hF30.same 6 (by decide)).trans a6_29
            have a7_30 := (hF30.same 7 (by decide)).trans a7_29
            have a8_30 := (hF30.same 8 (by decide)).trans a8_29
            have a9_30 := (hF30.same 9 (by decide)).trans a9_29
            have a10_30 := (hF30.same 10 (by decide)).trans a10_29
            have x340_30 := (hF30.same 340 (by decide)).trans hb29
            refine hK _ _ ?_
            clear hK
            by_cases hm : mode = 0
            · subst hm
              refine wp_cond_true (hb30.trans (by rfl)) ?_
              refine wp_seq_k (fun K hK => ?_)
              refine signR _ hE r HSign.out 343 true (by unfold Desc; kernel_rfl) (by kernel_rfl) rfl (hQm.inBlock).then (by decide) (by rw [sz30]; decide) a0_30 a9_30 hC5 ?_
              intro A31 w31 hF31 hb31 hC31
              have sz31 := hF31.size.trans sz30
              have df31 := hF31.defers.trans df30
              have a0_31 := (hF31.same 0 (by decide)).trans a0_30
              have a2_31 := (hF31.same 2 (by decide)).trans a2_30
              have a6_31 := (hF31.same 6 (by decide)).trans a6_30
              have a7_31 := (hF31.same 7 (by decide)).trans a7_30
              have a8_31 := (hF31.same 8 (by decide)).trans a8_30
              have a9_31 := (hF31.same 9 (by decide)).trans a9_30
              have a10_31 := (hF31.same 10 (by decide)).trans a10_30
              have x340_31 := (hF31.same 340 (by decide)).trans x340_30
              refine hK _ _ ?_
              clear hK
              by_cases hneg : r < 0
              · have hadj : adj q r m 0 = -1 := by rw [hadjF]; simp [adjFull, hneg]
                refine wp_cond_true (hb31.trans (by simp [hneg])) ?_
                refine subR _ hE los ups HSub.out 356 (by unfold Desc; kernel_rfl) (by kernel_rfl) (by kernel_rfl) rfl (hQm.inBlock) (by decide) (by rw [sz31]; decide) a0_31 a8_31 a10_31 hC31 ?_
                intro A32 w32 hF32 hC32
                have sz32 := hF32.size.trans sz31
                have df32 := hF32.defers.trans df31
                have a0_32 := (hF32.same 0 (by decide)).trans a0_31
                have a2_32 := (hF32.same 2 (by decide)).trans a2_31
                have a6_32 := (hF32.same 6 (by decide)).trans a6_31
                have a7_32 := (hF32.same 7 (by decide)).trans a7_31
                have a8_32 := (hF32.same 8 (by decide)).trans a8_31
                have a9_32 := (hF32.same 9 (by decide)).trans a9_31
                have a10_32 := (hF32.same 10 (by decide)).trans a10_31
                have x340_32 := (hF32.same 340 (by decide)).trans x340_31
                obtain ⟨rfl, rfl⟩ := HAM.out hadj
                have hvE := blk_set (blk_set hC32.2 0 (.int .u64 lov)) 1 (.int .i64 upv)
                simp at hvE
                exact hQd _ _ (Done.mk sz32 df32 a0_32 a2_32 a6_32 a7_32 a8_32 ⟨(hC32.1.setCell (.inl rfl) _).setCell (.inl rfl) _, hvE⟩)
              · have hadj : adj q r m 0 = 0 := by rw [hadjF]; simp [adjFull, hneg]
                refine wp_cond_false (hb31.trans (by simp [hneg])) ?_
                refine wp_skip ?_
                obtain ⟨rfl, rfl⟩ := HAZ.out hadj
                exact hQd _ _ (Done.mk sz31 df31 a0_31 a2_31 a6_31 a7_31 a8_31 hC31)
            · refine wp_cond_false (hb30.trans (by simp [hm])) ?_
              have hn0 := hm
              clear hm
              refine wp_seq_k (fun K hK => ?_)
              refine isR 369 340 1 mode (by unfold Desc; kernel_rfl) (by rw [sz30]; decide) x340_30 ?_
              intro A33 hF33 hb33
              have sz33 := hF33.size.trans sz30
              have df33 := hF33.defers.trans df30
              have a0_33 := (hF33.same 0 (by decide)).trans a0_30
              have a2_33 := (hF33.same 2 (by decide)).trans a2_30
              have a6_33 := (hF33.same 6 (by decide)).trans a6_30
              have a7_33 := (hF33.same 7 (by decide)).trans a7_30
              have a8_33 := (hF33.same 8 (by decide)).trans a8_30
              have a9_33 := (hF33.same 9 (by decide)).trans a9_30
              have a10_33 := (hF33.same 10 (by decide)).trans a10_30
              have x340_33 := (hF33.same 340 (by decide)).trans x340_30
              refine hK _ _ ?_
              clear hK
              by_cases hm : mode = 1
              · subst hm
                refine wp_cond_true (hb33.trans (by rfl)) ?_
                refine wp_seq_k (fun K hK => ?_)
                refine signR _ hE r HSign.out 371 false (by unfold Desc; kernel_rfl) (by kernel_rfl) rfl (hQm.inBlock).then (by decide) (by rw [sz33]; decide) a0_33 a9_33 hC5 ?_
                intro A34 w34 hF34 hb34 hC34
                have sz34 := hF34.size.trans sz33
                have df34 := hF34.defers.trans df33
                have a0_34 := (hF34.same 0 (by decide)).trans a0_33
                have a2_34 := (hF34.same 2 (by decide)).trans a2_33
                have a6_34 := (hF34.same 6 (by decide)).trans a6_33
                have a7_34 := (hF34.same 7 (by decide)).trans a7_33
                have a8_34 := (hF34.same 8 (by decide)).trans a8_33
                have a9_34 := (hF34.same 9 (by decide)).trans a9_33
                have a10_34 := (hF34.same 10 (by decide)).trans a10_33
                have x340_34 := (hF34.same 340 (by decide)).trans x340_33
                refine hK _ _ ?_
                clear hK
                by_cases hneg : r < 0
                · have hadj : adj q r m 1 = 0 := by rw [hadjF]; simp [adjFull, hneg]
                  refine wp_cond_false (hb34.trans (by simp [Int.not_le.2 hneg])) ?_
                  refine wp_skip ?_
                  obtain ⟨rfl, rfl⟩ := HAZ.out hadj
                  exact hQd _ _ (Done.mk sz34 df34 a0_34 a2_34 a6_34 a7_34 a8_34 hC34)
                · have hadj : adj q r m 1 = 1 := by rw [hadjF]; simp [adjFull, hneg]
                  refine wp_cond_true (hb34.trans (by simp [Int.not_lt.1 hneg])) ?_
                  refine addR _ hE loa upa HAdd.out 384 (by unfold Desc; kernel_rfl) (by kernel_rfl) (by kernel_rfl) rfl (hQm.inBlock) (by decide) (by rw [sz34]; decide) a0_34 a8_34 a10_34 hC34 ?_
                  intro A35 w35 hF35 hC35
                  have sz35 := hF35.size.trans sz34
                  have df35 := hF35.defers.trans df34
                  have a0_35 := (hF35.same 0 (by decide)).trans a0_34
                  have a2_35 := (hF35.same 2 (by decide)).trans a2_34
                  have a6_35 := (hF35.same 6 (by decide)).trans a6_34
                  have a7_35 := (hF35.same 7 (by decide)).trans a7_34
                  have a8_35 := (hF35.same 8 (by decide)).trans a8_34
                  have a9_35 := (hF35.same 9 (by decide)).trans a9_34
                  have a10_35 := (hF35.same 10 (by decide)).trans a10_34
                  have x340_35 := (hF35.same 340 (by decide)).trans x340_34
                  obtain ⟨rfl, rfl⟩ := HAP.out hadj
                  have hvE := blk_set (blk_set hC35.2 0 (.int .u64 lov)) 1 (.int .i64 upv)
                  simp at hvE
                  exact hQd _ _ (Done.mk sz35 df35 a0_35 a2_35 a6_35 a7_35 a8_35 ⟨(hC35.1.setCell (.inl rfl) _).setCell (.inl rfl) _, hvE⟩)
              · refine wp_cond_false (hb33.trans (by simp [hm])) ?_
                have hn1 := hm
                clear hm
                refine wp_seq_k (fun K hK => ?_)
                refine isR 397 340 2 mode (by unfold Desc; kernel_rfl) (by rw [sz33]; decide) x340_33 ?_
                intro A36 hF36 hb36
                have sz36 := hF36.size.trans sz33
                have df36 := hF36.defers.trans df33
                have a0_36 := (hF36.same 0 (by decide)).trans a0_33
                have a2_36 := (hF36.same 2 (by decide)).trans a2_33
                have a6_36 := (hF36.same 6 (by decide)).trans a6_33
                have a7_36 := (hF36.same 7 (by decide)).trans a7_33
                have a8_36 := (hF36.same 8 (by decide)).trans a8_33
                have a9_36 := (hF36.same 9 (by decide)).trans a9_33
                have a10_36 := (hF36.same 10 (by decide)).trans a10_33
                have x340_36 := (hF36.same 340 (by decide)).trans x340_33
                refine hK _ _ ?_
                clear hK
                by_cases hm : mode = 2
                · subst hm
                  refine wp_cond_true (hb36.trans (by rfl)) ?_
                  have hadj : adj q r m 2 = 0 := by rw [hadjF]; rfl
                  refine wp_skip ?_
                  obtain ⟨rfl, rfl⟩ := HAZ.out hadj
                  exact hQd _ _ (Done.mk sz36 df36 a0_36 a2_36 a6_36 a7_36 a8_36 hC5)
                · refine wp_cond_false (hb36.trans (by simp [hm])) ?_
                  have hn2 := hm
                  clear hm
                  refine wp_seq_k (fun K hK => ?_)
                  refine isR 399 340 3 mode (by unfold Desc; kernel_rfl) (by rw [sz36]; decide) x340_36 ?_
                  intro A37 hF37 hb37
                  have sz37 := hF37.size.trans sz36
                  have df37 := hF37.defers.trans df36
                  have a0_37 := (hF37.same 0 (by decide)).trans a0_36
                  have a2_37 := (hF37.same 2 (by decide)).trans a2_36
                  have a6_37 := (hF37.same 6 (by decide)).trans a6_36
                  have a7_37 := (hF37.same 7 (by decide)).trans a7_36
                  have a8_37 := (hF37.same 8 (by decide)).trans a8_36
                  have a9_37 := (hF37.same 9 (by decide)).trans a9_36
                  have a10_37 := (hF37.same 10 (by decide)).trans a10_36
                  have x340_37 := (hF37.same 340 (by decide)).trans x340_36
                  refine hK _ _ ?_
                  clear hK
                  by_cases hm : mode = 3
                  · subst hm
                    refine wp_cond_true (hb37.trans (by rfl)) ?_
                    refine wp_seq_k (fun K hK => ?_)
                    refine signR _ hE r HSign.out 401 false (by unfold Desc; kernel_rfl) (by kernel_rfl) rfl (hQm.inBlock).then (by decide) (by rw [sz37]; decide) a0_37 a9_37 hC5 ?_
                    intro A38 w38 hF38 hb38 hC38
                    have sz38 := hF38.size.trans sz37
                    have df38 := hF38.defers.trans df37
                    have a0_38 := (hF38.same 0 (by decide)).trans a0_37
                    have a2_38 := (hF38.same 2 (by decide)).trans a2_37
                    have a6_38 := (hF38.same 6 (by decide)).trans a6_37
                    have a7_38 := (hF38.same 7 (by decide)).trans a7_37
                    have a8_38 := (hF38.same 8 (by decide)).trans a8_37
                    have a9_38 := (hF38.same 9 (by decide)).trans a9_37
                    have a10_38 := (hF38.same 10 (by decide)).trans a10_37
                    have x340_38 := (hF38.same 340 (by decide)).trans x340_37
                    refine hK _ _ ?_
                    clear hK
                    by_cases hneg : r < 0
                    · have hadj : adj q r m 3 = -1 := by rw [hadjF]; simp [adjFull, hneg]
                      refine wp_cond_false (hb38.trans (by simp [Int.not_le.2 hneg])) ?_
                      refine subR _ hE los ups HSub.out 427 (by unfold Desc; kernel_rfl) (by kernel_rfl) (by kernel_rfl) rfl (hQm.inBlock) (by decide) (by rw [sz38]; decide) a0_38 a8_38 a10_38 hC38 ?_
                      intro A39 w39 hF39 hC39
                      have sz39 := hF39.size.trans sz38
                      have df39 := hF39.defers.trans df38
                      have a0_39 := (hF39.same 0 (by decide)).trans a0_38
                      have a2_39 := (hF39.same 2 (by decide)).trans a2_38
                      have a6_39 := (hF39.same 6 (by decide)).trans a6_38
                      have a7_39 := (hF39.same 7 (by decide)).trans a7_38
                      have a8_39 := (hF39.same 8 (by decide)).trans a8_38
                      have a9_39 := (hF39.same 9 (by decide)).trans a9_38
                      have a10_39 := (hF39.same 10 (by decide)).trans a10_38
                      have x340_39 := (hF39.same 340 (by decide)).trans x340_38
                      obtain ⟨rfl, rfl⟩ := HAM.out hadj
                      have hvE := blk_set (blk_set hC39.2 0 (.int .u64 lov)) 1 (.int .i64 upv)
                      simp at hvE
                      exact hQd _ _ (Done.mk sz39 df39 a0_39 a2_39 a6_39 a7_39 a8_39 ⟨(hC39.1.setCell (.inl rfl) _).setCell (.inl rfl) _, hvE⟩)
                    · have hadj : adj q r m 3 = 1 := by rw [hadjF]; simp [adjFull, hneg]
                      refine wp_cond_true (hb38.trans (by simp [Int.not_lt.1 hneg])) ?_
                      refine addR _ hE loa upa HAdd.out 414 (by unfold Desc; kernel_rfl) (by kernel_rfl) (by kernel_rfl) rfl (hQm.inBlock) (by decide) (by rw [sz38]; decide) a0_38 a8_38 a10_38 hC38 ?_
                      intro A40 w40 hF40 hC40
                      have sz40 := hF40.size.trans sz38
                      have df40 := hF40.defers.trans df38
                      have a0_40 := (hF40.same 0 (by decide)).trans a0_38
                      have a2_40 := (hF40.same 2 (by decide)).trans a2_38
                      have a6_40 := (hF40.same 6 (by decide)).trans a6_38
                      have a7_40 := (hF40.same 7 (by decide)).trans a7_38
                      have a8_40 := (hF40.same 8 (by decide)).trans a8_38
                      have a9_40 := (hF40.same 9 (by decide)).trans a9_38
                      have a10_40 := (hF40.same 10 (by decide)).trans a10_38
                      have x340_40 := (hF40.same 340 (by decide)).trans x340_38
                      obtain ⟨rfl, rfl⟩ := HAP.out hadj
                      have hvE := blk_set (blk_set hC40.2 0 (.int .u64 lov)) 1 (.int .i64 upv)
                      simp at hvE
                      exact hQd _ _ (Done.mk sz40 df40 a0_40 a2_40 a6_40 a7_40 a8_40 ⟨(hC40.1.setCell (.inl rfl) _).setCell (.inl rfl) _, hvE⟩)
                  · exact (no_lo h4 h0' hn0 hn1 hn2 hm).elim
        · intro A0 w6 hDn
          have hEV : Env ⟨rb, tb, ib, ob, vb, qb, nb, mode, decide (m % 2 = 0), lom, upm, lof, upf, lon, upn, lor, upr, lov, upv⟩ (fun w' => Keep (fun b => b = vb) w5 w' ∧ w'.heap[vb]? = some (.cells #[.int .u64 lov, .int .i64 upv] 42 (0, 0))) :=
            ⟨fun w w' h hk => ⟨h.1.trans (hk.mono (fun _ h => h.elim)), hk.blk h.2 (fun h => h)⟩, fun w h => h.1.cell rb0 nrb, fun w h => h.1.cell rb1 nrb, fun w h => h.1.cell rb2 nrb, fun w h => h.1.cell rb3 nrb, fun w h => h.1.cell rb4 nrb, fun w h => h.1.cell rb5 nrb, fun w h => h.1.cell rb6 nrb, fun w h => h.1.cell rb7 nrb, fun w h => h.1.cell rb8 nrb, fun w h => h.1.cell rb9 nrb, fun w h => h.1.cell ib0 nib, fun w h => h.1.cell ib4 nib, fun w h => h.1.cell ib5 nib, fun w h => h.1.cell ib8 nib, fun w h => h.1.cell ob0 nob, fun w h => h.1.cell ob1 nob, fun w h => h.1.cell ob3 nob, fun w h => h.1.cell ob6 nob, fun w h => h.1.cell qb0 nqb, fun w h => h.1.cell qb1 nqb, fun w h => h.1.cell onb0 nnb, fun w h => h.1.cell onb1 nnb, fun w h => h.2⟩
          have hdb : w5.cell? ⟨w.heap.size + 1 + 1, 0, none⟩ = some (.int .u64 0) ∧ w5.cell? ⟨w.heap.size + 1 + 1, 1, none⟩ = some (.int .i64 0) := ⟨db0, db1⟩
          have HDB := Lib.hid hdb
          clear hdb rb1 rb2 rb3 rb4 rb5 rb6 rb7 rb8 rb9 rb0 ib0 ib4 ib5 ib8 ob0 ob1 ob3 ob6 qb0 qb1 onb0 onb1 vb0 vb1 db0 db1 hob hv5 hE hC5
          go_upto_region 47 with fail
          refine mulR _ hEV lod upd HMUL.out 440 (by unfold Desc; kernel_rfl) (by kernel_rfl) rfl (fun _ _ _ _ _ h => h) (by decide) (by rw [hDn.size]; decide) hDn.a0 hDn.a8 hDn.world ?_
          intro A1 w7 zb hF1 a11 hzb hz hk7
          have h67 : w5.heap.size ≤ w7.heap.size := Nat.le_trans hDn.world.1.size hk7.size
          have hk57 := hDn.world.1.trans (hk7.mono (fun _ h => h.elim))
          have hT7 := hk57.blk HW5.out.2.2.1 (nlt htl hv0)
          have hE7 := hk57.blk HW5.out.2.2.2.1 (nlt hel hv0)
          have hS7 := HW5.out.2.1.keep hk57 (nz hv0)
          have hR7 := hk57.blk HW5.out.2.2.2.2.1 (nl1 hv0)
          have hD7 := And.intro (hk57.cell HDB.out.1 (nl2 hv0)) (hk57.cell HDB.out.2 (nl2 hv0))
          have hEW := hEV.from w7 (hEV.keep _ _ hDn.world hk7)
          have hz0 := blk_cell hz 0
          have hz1 := blk_cell hz 1
          simp only [List.getElem?_toArray, List.getElem?_cons_zero, List.getElem?_cons_succ] at hz0 hz1
          have b0 := (hF1.same 0 (by decide)).trans hDn.a0
          have b2 := (hF1.same 2 (by decide)).trans hDn.a2
          have b6 := (hF1.same 6 (by decide)).trans hDn.a6
          have b7 := (hF1.same 7 (by decide)).trans hDn.a7
          have bs := hF1.size.trans hDn.size
          have bd := hF1.defers.trans hDn.defers
          have hkW : Keep (fun _ => False) w w7 := HW5.out.2.2.2.2.2.step hk57 (fun b hb => .inr (gfr hv0 hb))
          clear hDn hEV
          go_upto_region 48 with fail
          refine fitsR _ hEW lod upd zb p (decide (d.natAbs < 10 ^ p)) (fun w' hk => hk.cell hz0 (fun h => h)) (fun w' hk => hk.cell hz1 (fun h => h)) (fun w' hk => HGP.out w' (hk.blk hT7 (fun h => h))) (fun w' hk => HFit.out w' (hS7.keep hk (fun h => h))) 456 (by unfold Desc; kernel_rfl) (by kernel_rfl) rfl (fun _ _ _ _ _ h => h) (by decide) (by rw [bs]; decide) b0 a11 (Keep.refl _ _) ?_
          intro A2 w8 hF2 hb2 hk8 _
          have b2 := (hF2.same 2 (by decide)).trans b2
          have b6 := (hF2.same 6 (by decide)).trans b6
          have b7 := (hF2.same 7 (by decide)).trans b7
          have b11 := (hF2.same 11 (by decide)).trans a11
          have bs := hF2.size.trans bs
          have bd := hF2.defers.trans bd
          have hR8 := hk8.blk hR7 (fun h => h)
          have hE8 := hk8.blk hE7 (fun h => h)
          have hz8 := hk8.blk hz (fun h => h)
          have z0 := blk_cell hz8 0
          have z1 := blk_cell hz8 1
          simp only [List.getElem?_toArray, List.getElem?_cons_zero, List.getElem?_cons_succ] at z0 z1
          have hkW8 := hkW.trans hk8
          have HZ := Lib.hid (And.intro hD7 (And.intro hk8 hel))
          clear hz hz0 hz1 hz8 hk57 hEW hT7 hE7 hS7 hR7 hk7 hD7
          go_upto_if 470 with fail
          by_cases hfit : d.natAbs < 10 ^ p
          · refine wp_cond_false (hb2.trans (by rw [decide_eq_true hfit]; rfl)) ?_
            refine wp_skip ?_
            go_upto_region 51 with fail
            refine copyR 475 11 zb (w.heap.size + 1) lod (.int .i64 upd) _ _ (by unfold Desc; kernel_rfl) (by decide) (by rw [bs]; decide) b11 b6 upd rfl z0 z1 hR8 ?_
            intro A3 hF3
            have g6 : A3.tmps.getD 6 undef = .pointer (some ⟨w.heap.size + 1, 0, none⟩) := (hF3.same 6 (by decide)).trans b6
            have g6' : A3.tmps[6]?.getD undef = .pointer (some ⟨w.heap.size + 1, 0, none⟩) := by rw [← g6, Array.getD_eq_getD_getElem?]
            have gd : A3.defers = [] := hF3.defers.trans bd
            have hkE : Keep (fun _ => False) w ((w8.setCell ⟨w.heap.size + 1, 0, none⟩ (.int .u64 lod)).setCell ⟨w.heap.size + 1, 1, none⟩ (.int .i64 upd)) := (hkW8.setCell (.inr (Nat.le_succ _)) _).setCell (.inr (Nat.le_succ _)) _
            have hE := blk_set (blk_set hR8 0 (.int .u64 lod)) 1 (.int .i64 upd)
            have t0 := blk_cell hE 0
            have t1 := blk_cell hE 1
            simp at t0 t1
            have HF := Lib.hid hkE
            clear hkE hE hR8 hE8 z0 z1 hkW8
            go_wp2_with fail
            exact bodyPost_ret (v := .agg #[.int .u64 lod, .int .i64 upd]) (by simp [results, Tryz.results41, go_sem, g6', t0, t1]) gd (.inl ⟨hfit, by rw [HED.out], HF.out⟩)
          · refine wp_cond_true (hb2.trans (by rw [decide_eq_false hfit]; rfl)) ?_
            refine wp_seq_k (fun K2 hK2 => ?_)
            refine errR 471 eb _ (HNew.out _) (by unfold Desc errD; rfl) (by rw [bs]; decide) b2 .nilIface hE8 ?_
            intro A3 w9 hF3 hk9
            refine hK2 _ _ ?_
            refine wp_seq_k (fun K3 hK3 => ?_)
            have hR9 := blk_far (hk9.blk hR8 (fun h => h)) (p := ⟨eb, 0, none⟩) (nl3 HZ.out.2.2) (.iface 140 (.pointer (some ⟨w8.heap.size, 0, none⟩)))
            have hE9 := blk_set (hk9.blk hE8 (fun h => h)) 0 (.iface 140 (.pointer (some ⟨w8.heap.size, 0, none⟩)))
            have hkW9 : Keep (fun b => b = eb) w (w9.setCell ⟨eb, 0, none⟩ (.iface 140 (.pointer (some ⟨w8.heap.size, 0, none⟩)))) := ((hkW8.trans hk9).mono (S' := fun b => b = eb) (fun _ h => h.elim)).setCell (p := ⟨eb, 0, none⟩) (.inl rfl) _
            have hkz : Keep (fun b => b = eb) w7 (w9.setCell ⟨eb, 0, none⟩ (.iface 140 (.pointer (some ⟨w8.heap.size, 0, none⟩)))) := ((HZ.out.2.1.trans hk9).mono (S' := fun b => b = eb) (fun _ h => h.elim)).setCell (p := ⟨eb, 0, none⟩) (.inl rfl) _
            have z2 := hkz.cell HZ.out.1.1 (nl4 HZ.out.2.2)
            have z3 := hkz.cell HZ.out.1.2 (nl4 HZ.out.2.2)
            generalize w9.setCell ⟨eb, 0, none⟩ (.iface 140 (.pointer (some ⟨w8.heap.size, 0, none⟩))) = wE at *
            have c6 := (hF3.same 6 (by decide)).trans b6
            have c7 := (hF3.same 7 (by decide)).trans b7
            have cs := hF3.size.trans bs
            have cd := hF3.defers.trans bd
            refine copyR 474 7 (w.heap.size + 1 + 1) (w.heap.size + 1) 0 (.int .i64 0) _ _ (by unfold Desc; kernel_rfl) (by decide) (by rw [cs]; decide) c7 c6 0 rfl z2 z3 hR9 ?_
            intro A4 hF4
            refine hK3 _ _ (wp_ret ?_)
            have g6 : A4.tmps.getD 6 undef = .pointer (some ⟨w.heap.size + 1, 0, none⟩) := (hF4.same 6 (by decide)).trans c6
            have g6' : A4.tmps[6]?.getD undef = .pointer (some ⟨w.heap.size + 1, 0, none⟩) := by rw [← g6, Array.getD_eq_getD_getElem?]
            have gd : A4.defers = [] := hF4.defers.trans cd
            have hkE : Keep (fun b => b = eb) w ((wE.setCell ⟨w.heap.size + 1, 0, none⟩ (.int .u64 (0 : Nat))).setCell ⟨w.heap.size + 1, 1, none⟩ (.int .i64 0)) := (hkW9.setCell (.inr (Nat.le_succ _)) _).setCell (.inr (Nat.le_succ _)) _
            have hE := blk_set (blk_set hR9 0 (.int .u64 (0 : Nat))) 1 (.int .i64 0)
            have t0 := blk_cell hE 0
            have t1 := blk_cell hE 1
            simp at t0 t1
            have hEE := blk_far (blk_far hE9 (p := ⟨w.heap.size + 1, 0, none⟩) (nl5 HZ.out.2.2) (.int .u64 (0 : Nat))) (p := ⟨w.heap.size + 1, 1, none⟩) (nl5 HZ.out.2.2) (.int .i64 0)
            exact bodyPost_ret (v := .agg #[.int .u64 (0 : Nat), .int .i64 0]) (by simp [results, Tryz.results41, go_sem, g6', t0, t1]) gd (.inr ⟨hfit, rfl, hkE, _, hEE⟩)
end Go.Proofs.YtamkglgiaiejkaaGreatDoor

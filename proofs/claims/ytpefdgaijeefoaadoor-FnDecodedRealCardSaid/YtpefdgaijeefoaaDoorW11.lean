/-
  ftoa64 AT A NUMBER THAT IS NOT NOUGHT. Conditions: the tables read as the library's text lays them.
  By an AI agent. No person has read it.
-/
import Derived.Test.YtpefdgaijeefoaaDoorW5
import Derived.Test.YtpefdgaijeefoaaDoorW9
import Derived.Test.YtpefdgaijeefoaaDoorW10
import Derived.Deep.RegionWith
import Derived.Lib.AppendIntMem
namespace Go.Proofs
open Go.RowKit Go.Lib
namespace YtpefdgaijeefoaaDoor

/-- the word of 10^i as float64pow10 holds it. -/
def fpow : List Nat := [4607182418800017408, 4621819117588971520, 4636737291354636288, 4652007308841189376, 4666723172467343360, 4681608360884174848, 4696837146684686336, 4711630319722168320, 4726483295884279808, 4741671816366391296, 4756540486875873280, 4771362005757984768, 4786511204640096256, 4801453603149578240, 4816244402031689728, 4831355200913801216, 4846369599423283200, 4861130398305394688, 4876203697187506176, 4891288408196988160, 4906019910204099648, 4921056587992461136, 4936209963552724370]

/-- What the walks read below block B, wherever the program has come to. -/
structure Base (B : Nat) (w : World) : Prop where
  five : 5 < B
  sz : B ≤ w.heap.size
  tab : ∀ i, i < 696 → w.cell? ⟨3, i * 2, none⟩ = some (.int .u64 (row i).1) ∧ w.cell? ⟨3, i * 2 + 1, none⟩ = some (.int .u64 (row i).2)
  u64p : TabBelow Tryd.prog B w "internal/strconv.uint64pow10" .u64 Lib.pow10Tab
  opt : w.cell? ⟨1, 0, none⟩ = some (.bool true)
theorem Base.below {B : Nat} {w w' : World} (h : Base B w) (hb : Below B w w') : Base B w' := by
  obtain ⟨h1, h2, h3, h4, h5⟩ := h
  refine ⟨h1, Nat.le_trans h2 hb.size, fun i hi => ?_, h4.on hb, ?_⟩
  · rw [hb.cell (p := ⟨3, i * 2, none⟩) (show 3 < B by omega), hb.cell (p := ⟨3, i * 2 + 1, none⟩) (show 3 < B by omega)]
    exact h3 i hi
  · rw [hb.cell (p := ⟨1, 0, none⟩) (show 1 < B by omega)]
    exact h5
theorem Base.drew {B : Nat} {w : World} (h : Base B w) : Base B w.drew := h.below (Below.refl B w).drew
theorem Base.ok {B : Nat} {w : World} (h : Base B w) : TabOk w := ⟨Nat.lt_of_lt_of_le h.five h.sz, h.tab⟩

theorem nd_named (u nd : Nat) (h1 : 1 ≤ u) (h2 : u < 18446744073709551616) (hn : Lib.nDigits u = nd) (w : World) (htab : Lib.TabIs Tryd.prog w "internal/strconv.uint64pow10" .u64 Lib.pow10Tab) :
    Calls Tryd.prog 37 #[.int .u64 u] w fun e w' => e = .returned (.int .i64 nd) ∧ w' = w := by
  subst hn
  exact Tryd.internal_strconv_numDigits u h1 h2 w htab

/-- the new buffer. -/
def buf32 : Obj := .cells #[.int .u8 0, .int .u8 0, .int .u8 0, .int .u8 0, .int .u8 0, .int .u8 0, .int .u8 0, .int .u8 0, .int .u8 0, .int .u8 0, .int .u8 0, .int .u8 0, .int .u8 0, .int .u8 0, .int .u8 0, .int .u8 0, .int .u8 0, .int .u8 0, .int .u8 0, .int .u8 0, .int .u8 0, .int .u8 0, .int .u8 0, .int .u8 0, .int .u8 0, .int .u8 0, .int .u8 0, .int .u8 0, .int .u8 0, .int .u8 0, .int .u8 0, .int .u8 0] 75
theorem buf_cells : ∀ t : Fin 32, (match buf32 with | .cells c _ _ => c[t.val]? | _ => none) = some (.int .u8 0) := fun t => by
  have h : (match buf32 with | .cells c _ _ => c | _ => #[]) = (List.replicate 32 (Value.int .u8 0)).toArray := rfl
  show (match buf32 with | .cells c _ _ => c | _ => #[])[t.val]? = _
  rw [h, List.getElem?_toArray, List.getElem?_replicate, if_pos t.isLt]
theorem buf_at (w : World) (j : Nat) (hj : j < 32) : (w.alloc buf32).cell? ⟨w.heap.size, j, none⟩ = some (.int .u8 0) ∧ (w.alloc buf32).frozen? ⟨w.heap.size, j, none⟩ = false := by
  constructor
  · unfold buf32
    rw [World.cell?_alloc_new]
    exact buf_cells ⟨j, hj⟩
  · unfold buf32
    go_simp

set_option maxRecDepth 100000 in
set_option maxHeartbeats 1600000 in
theorem ftoa_n (B D x y E F m L z mm d nd : Nat) (p : Int) (neg : Bool) (w : World) (_hx : x < 18446744073709551616) (hE : E < 2047) (h1 : 1 ≤ E)
   (T1 : ((x : Int) / 9223372036854775808 != 0) = neg) (Ty : (x : Int) / 4503599627370496 = y) (hy : y < 4096) (T2 : bits .and .i64 (y : Int) 2047 = E) (T3 : bits .and .u64 (x : Int) 4503599627370495 = F)
   (T4 : bits .or .u64 (F : Int) 4503599627370496 = m) (hm : 0 < m) (hm64 : m < 18446744073709551616) (hL : Go.Lib.bitLen m = L) (hz : (z : Int) = 64 - L) (hL1 : 1 ≤ L) (hL2 : L ≤ 53) (hmm : m * 2 ^ z = mm) (hmm2 : mm < 18446744073709551616)
   (H35 : ∀ w1, TabOk w1 → Calls Tryd.prog 35 #[.int .u64 mm, .int .i64 (E + -1023 - z - 52)] w1 fun y w' => y = .returned (.tuple #[.int .u64 d, .int .i64 p]) ∧ Below w1.heap.size w1 w')
   (hd : 0 < d) (hnd : Lib.nDigits d = nd) (hnd1 : 1 ≤ nd) (hnd17 : nd ≤ 17) (hdn : d < 10 ^ nd) (hp : -350 ≤ p) (hp2 : p ≤ 350) (hB : Base B w) (hD : B ≤ D) (hR : Row w D 0 []) :
    Calls Tryd.prog 26 #[.slice (some ⟨D, 0, none⟩) 0 24, .float .f64 x, .int .u8 103, .int .i64 (-1)] w fun e w' =>
      ∃ n j : Nat, 1 ≤ j ∧ j ≤ nd ∧ dv ((digs d nd).take j) * 10 ^ (nd - j) = d ∧ e = .returned (.slice (some ⟨D, 0, none⟩) n 24) ∧ Row w' D n (txt neg j (digs d nd) (nd + p)) ∧ Below B w w' := by
  have e30 := ext30
  have hd64 : d < 18446744073709551616 := by
    have := Nat.pow_le_pow_right (show 10 > 0 by decide) hnd17
    omega
  have k1 : ((E : Int) == 2047) = false := by simp; omega
  have k2 : ((E : Int) == 0) = false := by simp; omega
  have k3 : ((m : Int) == 0) = false := by simp; omega
  have HL := Lib.hid hL
  have hBsz := hB.sz
  have HB := Lib.hid hB
  have HR := Lib.hid hR
  have HND := Lib.hid hnd
  have HDN := Lib.hid hdn
  have HH := Lib.hid H35
  clear hL hB hR hnd hdn H35
  have kz : (64 : Int) - L = z := hz.symm
  have kmm : (m : Int) * 2 ^ z = mm := by rw [← hmm]; push_cast; rfl
  have kz2 : z ≤ 63 := by omega
  clear hz hmm
  go_enter Tryd.func26, Tryd.ntmps26
  go_wp2_with fail
  go_quiet (fail)
  go_wp2_with fail
  (with_reducible refine (len64_named m L hm64 HL.out _).mono ?_); rintro e' w' ⟨rfl, rfl⟩
  go_wp2_with fail
  have HB1 : Hid (Base B ((w.drewN nq).alloc buf32)) := HB.out.below (Below.alloc (a := w) (w := w.drewN nq) ⟨rfl, rfl, rfl, Nat.le_refl _, fun _ _ => rfl⟩ HB.out.sz _)
  have HBW : Hid (Below B w ((w.drewN nq).alloc buf32)) := Below.alloc (a := w) (w := w.drewN nq) ⟨rfl, rfl, rfl, Nat.le_refl _, fun _ _ => rfl⟩ HB.out.sz _
  have HC1 : Hid (∀ j, j < 32 → ((w.drewN nq).alloc buf32).cell? ⟨w.heap.size, j, none⟩ = some (.int .u8 0) ∧ ((w.drewN nq).alloc buf32).frozen? ⟨w.heap.size, j, none⟩ = false) := fun j hj => buf_at (w.drewN nq) j hj
  have HR1 : Hid (Row ((w.drewN nq).alloc buf32) D 0 []) := HR.out.kept (Below.heap_alloc _ _ D HR.out.lt)
  have HS1 : Hid (((w.drewN nq).alloc buf32).heap.size = w.heap.size + 1) := by unfold Hid; simp
  change Calls _ _ _ ((w.drewN nq).alloc buf32) _
  generalize (w.drewN nq).alloc buf32 = w1 at *
  refine (HH.out w1 HB1.out.ok).mono ?_
  rintro e' w2 ⟨rfl, hb⟩
  have hDlt := HR.out.lt
  have HB2 : Hid (Base B w2) := HB1.out.below (hb.mono HB1.out.sz)
  have HBW2 : Hid (Below B w w2) := HBW.out.trans (hb.mono HB1.out.sz)
  have HC2 : Hid (∀ j, j < 32 → w2.cell? ⟨w.heap.size, j, none⟩ = some (.int .u8 0) ∧ w2.frozen? ⟨w.heap.size, j, none⟩ = false) := fun j hj => by
    have hk : w.heap.size < w1.heap.size := by have := HS1.out; omega
    rw [hb.cell (p := ⟨w.heap.size, j, none⟩) hk, hb.frozen (p := ⟨w.heap.size, j, none⟩) hk]
    exact HC1.out j hj
  have HR2 : Hid (Row w2 D 0 []) := HR1.out.kept (hb.block D (by have := HS1.out; omega))
  have HS2 : Hid (w.heap.size + 1 ≤ w2.heap.size) := by have := hb.size; have := HS1.out; unfold Hid; omega
  clear hb HB1 HBW HC1 HR1 HS1 HH HR HB
  go_wp2_with fail
  have TEST := Lib.hid (set_digits w.heap.size d nd p w2.drew (fun j hj => HC2.out j (by omega)) hnd1 hd HDN.out hnd17 (by omega) (by omega))
  go_region_with (first
    | (go_at_call 37; refine (nd_named d nd hd hd64 HND.out _ (by first | exact HB2.out.u64p.here | exact HB2.out.drew.u64p.here | exact HB2.out.drew.drew.u64p.here)).mono ?_; rintro e' w' ⟨rfl, rfl⟩)
    | (go_at_call 36; refine Calls.mono TEST.out ?_; rintro e' w' ⟨j, hj1, hj2, rfl, hg, hdg, hv⟩; have HG := Lib.hid hg; have HDG := Lib.hid hdg; have HV := Lib.hid hv; clear hg hdg hv))
  go_wp2_with fail
  have hsz : B ≤ w.heap.size := hBsz
  have hsz2 : w.heap.size + 1 ≤ w2.heap.size := HS2.out
  have hgs : w2.heap.size ≤ w'.heap.size := HG.out.size
  have HST : Hid (St w' w' D w.heap.size 0 (digs d nd) []) := ⟨HR2.out.kept (HG.out.block D (show D < w2.heap.size by omega) (by intro e; injection e; omega)), by omega, by omega, by omega, fun i hi => HDG.out i (by rw [digs_len] at hi; exact hi), ⟨rfl, rfl, rfl, Nat.le_refl _, fun _ _ _ => rfl⟩⟩
  refine Calls.mono (fmt_any D w.heap.size j neg (nd + p) (digs d nd) w' HST.out hj1 (by omega) (by rw [digs_len]; exact hj2) (by omega) (by omega) (fun i => by have := digs_range d nd i; omega)) ?_
  rintro e'' w'' ⟨n, rfl, hs⟩
  have HE : Hid (Row w'' D n (txt neg j (digs d nd) (nd + p))) := hs.row
  have HW : Hid (Below B w w'') := (HBW2.out.drew.grown HG.out (show B ≤ w2.heap.size by omega) (by intro k e; injection e; omega)).grown hs.kept (by omega) (by intro k e; injection e; omega)
  clear hs
  go_wp2_with fail
  go_ret
  exact ⟨n, j, hj1, hj2, HV.out, rfl, HE.out, HW.out⟩
set_option maxRecDepth 100000 in
set_option maxHeartbeats 1600000 in
theorem ftoa_s (B D x y m L z mm d nd : Nat) (p : Int) (neg : Bool) (w : World) (_hx : x < 18446744073709551616) 
   (T1 : ((x : Int) / 9223372036854775808 != 0) = neg) (Ty : (x : Int) / 4503599627370496 = y) (hy : y < 4096) (T2 : bits .and .i64 (y : Int) 2047 = 0) (T3 : bits .and .u64 (x : Int) 4503599627370495 = m)
   (hm : 0 < m) (hm64 : m < 18446744073709551616) (hL : Go.Lib.bitLen m = L) (hz : (z : Int) = 64 - L) (hL1 : 1 ≤ L) (hL2 : L ≤ 53) (hmm : m * 2 ^ z = mm) (hmm2 : mm < 18446744073709551616)
   (H35 : ∀ w1, TabOk w1 → Calls Tryd.prog 35 #[.int .u64 mm, .int .i64 (-1022 - z - 52)] w1 fun y w' => y = .returned (.tuple #[.int .u64 d, .int .i64 p]) ∧ Below w1.heap.size w1 w')
   (hd : 0 < d) (hnd : Lib.nDigits d = nd) (hnd1 : 1 ≤ nd) (hnd17 : nd ≤ 17) (hdn : d < 10 ^ nd) (hp : -350 ≤ p) (hp2 : p ≤ 350) (hB : Base B w) (hD : B ≤ D) (hR : Row w D 0 []) :
    Calls Tryd.prog 26 #[.slice (some ⟨D, 0, none⟩) 0 24, .float .f64 x, .int .u8 103, .int .i64 (-1)] w fun e w' =>
      ∃ n j : Nat, 1 ≤ j ∧ j ≤ nd ∧ dv ((digs d nd).take j) * 10 ^ (nd - j) = d ∧ e = .returned (.slice (some ⟨D, 0, none⟩) n 24) ∧ Row w' D n (txt neg j (digs d nd) (nd + p)) ∧ Below B w w' := by
  have e30 := ext30
  have hd64 : d < 18446744073709551616 := by
    have := Nat.pow_le_pow_right (show 10 > 0 by decide) hnd17
    omega
  have k3 : ((m : Int) == 0) = false := by simp; omega
  have HL := Lib.hid hL
  have hBsz := hB.sz
  have HB := Lib.hid hB
  have HR := Lib.hid hR
  have HND := Lib.hid hnd
  have HDN := Lib.hid hdn
  have HH := Lib.hid H35
  clear hL hB hR hnd hdn H35
  have kz : (64 : Int) - L = z := hz.symm
  have kmm : (m : Int) * 2 ^ z = mm := by rw [← hmm]; push_cast; rfl
  have kz2 : z ≤ 63 := by omega
  clear hz hmm
  go_enter Tryd.func26, Tryd.ntmps26
  go_wp2_with fail
  go_quiet (fail)
  go_wp2_with fail
  (with_reducible refine (len64_named m L hm64 HL.out _).mono ?_); rintro e' w' ⟨rfl, rfl⟩
  go_wp2_with fail
  have HB1 : Hid (Base B ((w.drewN nq).alloc buf32)) := HB.out.below (Below.alloc (a := w) (w := w.drewN nq) ⟨rfl, rfl, rfl, Nat.le_refl _, fun _ _ => rfl⟩ HB.out.sz _)
  have HBW : Hid (Below B w ((w.drewN nq).alloc buf32)) := Below.alloc (a := w) (w := w.drewN nq) ⟨rfl, rfl, rfl, Nat.le_refl _, fun _ _ => rfl⟩ HB.out.sz _
  have HC1 : Hid (∀ j, j < 32 → ((w.drewN nq).alloc buf32).cell? ⟨w.heap.size, j, none⟩ = some (.int .u8 0) ∧ ((w.drewN nq).alloc buf32).frozen? ⟨w.heap.size, j, none⟩ = false) := fun j hj => buf_at (w.drewN nq) j hj
  have HR1 : Hid (Row ((w.drewN nq).alloc buf32) D 0 []) := HR.out.kept (Below.heap_alloc _ _ D HR.out.lt)
  have HS1 : Hid (((w.drewN nq).alloc buf32).heap.size = w.heap.size + 1) := by unfold Hid; simp
  change Calls _ _ _ ((w.drewN nq).alloc buf32) _
  generalize (w.drewN nq).alloc buf32 = w1 at *
  refine (HH.out w1 HB1.out.ok).mono ?_
  rintro e' w2 ⟨rfl, hb⟩
  have hDlt := HR.out.lt
  have HB2 : Hid (Base B w2) := HB1.out.below (hb.mono HB1.out.sz)
  have HBW2 : Hid (Below B w w2) := HBW.out.trans (hb.mono HB1.out.sz)
  have HC2 : Hid (∀ j, j < 32 → w2.cell? ⟨w.heap.size, j, none⟩ = some (.int .u8 0) ∧ w2.frozen? ⟨w.heap.size, j, none⟩ = false) := fun j hj => by
    have hk : w.heap.size < w1.heap.size := by have := HS1.out; omega
    rw [hb.cell (p := ⟨w.heap.size, j, none⟩) hk, hb.frozen (p := ⟨w.heap.size, j, none⟩) hk]
    exact HC1.out j hj
  have HR2 : Hid (Row w2 D 0 []) := HR1.out.kept (hb.block D (by have := HS1.out; omega))
  have HS2 : Hid (w.heap.size + 1 ≤ w2.heap.size) := by have := hb.size; have := HS1.out; unfold Hid; omega
  clear hb HB1 HBW HC1 HR1 HS1 HH HR HB
  go_wp2_with fail
  have TEST := Lib.hid (set_digits w.heap.size d nd p w2.drew (fun j hj => HC2.out j (by omega)) hnd1 hd HDN.out hnd17 (by omega) (by omega))
  go_region_with (first
    | (go_at_call 37; refine (nd_named d nd hd hd64 HND.out _ (by first | exact HB2.out.u64p.here | exact HB2.out.drew.u64p.here | exact HB2.out.drew.drew.u64p.here)).mono ?_; rintro e' w' ⟨rfl, rfl⟩)
    | (go_at_call 36; refine Calls.mono TEST.out ?_; rintro e' w' ⟨j, hj1, hj2, rfl, hg, hdg, hv⟩; have HG := Lib.hid hg; have HDG := Lib.hid hdg; have HV := Lib.hid hv; clear hg hdg hv))
  go_wp2_with fail
  have hsz : B ≤ w.heap.size := hBsz
  have hsz2 : w.heap.size + 1 ≤ w2.heap.size := HS2.out
  have hgs : w2.heap.size ≤ w'.heap.size := HG.out.size
  have HST : Hid (St w' w' D w.heap.size 0 (digs d nd) []) := ⟨HR2.out.kept (HG.out.block D (show D < w2.heap.size by omega) (by intro e; injection e; omega)), by omega, by omega, by omega, fun i hi => HDG.out i (by rw [digs_len] at hi; exact hi), ⟨rfl, rfl, rfl, Nat.le_refl _, fun _ _ _ => rfl⟩⟩
  refine Calls.mono (fmt_any D w.heap.size j neg (nd + p) (digs d nd) w' HST.out hj1 (by omega) (by rw [digs_len]; exact hj2) (by omega) (by omega) (fun i => by have := digs_range d nd i; omega)) ?_
  rintro e'' w'' ⟨n, rfl, hs⟩
  have HE : Hid (Row w'' D n (txt neg j (digs d nd) (nd + p))) := hs.row
  have HW : Hid (Below B w w'') := (HBW2.out.drew.grown HG.out (show B ≤ w2.heap.size by omega) (by intro k e; injection e; omega)).grown hs.kept (by omega) (by intro k e; injection e; omega)
  clear hs
  go_wp2_with fail
  go_ret
  exact ⟨n, j, hj1, hj2, HV.out, rfl, HE.out, HW.out⟩
set_option maxRecDepth 100000 in
set_option maxHeartbeats 1600000 in
theorem ftoa_z (B D x y : Nat) (neg : Bool) (w : World) (_hx : x < 18446744073709551616)
   (T1 : ((x : Int) / 9223372036854775808 != 0) = neg) (Ty : (x : Int) / 4503599627370496 = y) (hy : y < 4096) (T2 : bits .and .i64 (y : Int) 2047 = 0) (T3 : bits .and .u64 (x : Int) 4503599627370495 = 0)
   (hB : Base B w) (hD : B ≤ D) (hR : Row w D 0 []) :
    Calls Tryd.prog 26 #[.slice (some ⟨D, 0, none⟩) 0 24, .float .f64 x, .int .u8 103, .int .i64 (-1)] w fun e w' =>
      ∃ n : Nat, e = .returned (.slice (some ⟨D, 0, none⟩) n 24) ∧ Row w' D n (sgF neg ++ [48]) ∧ Below B w w' := by
  have e30 := ext30
  have hBsz := hB.sz
  have hB5 := hB.five
  have HR := Lib.hid hR
  clear hB hR
  go_enter Tryd.func26, Tryd.ntmps26
  go_wp2_with fail
  go_quiet (fail)
  go_wp2_with fail
  have hlt := HR.out.lt
  have HST : Hid (St (w.drewN nq) (w.drewN nq) D 0 0 [] []) := ⟨HR.out.kept rfl, hlt, by show 0 < w.heap.size; omega, by omega, fun i hi => by simp at hi, ⟨rfl, rfl, rfl, Nat.le_refl _, fun _ _ _ => rfl⟩⟩
  refine Calls.mono (fmt_z D 0 neg [] (w.drewN nq) HST.out) ?_
  rintro e'' w'' ⟨n, rfl, hs⟩
  have HE : Hid (Row w'' D n (sgF neg ++ [48])) := hs.row
  have HW : Hid (Below B w w'') := Below.grown (a := w) (w := w.drewN nq) ⟨rfl, rfl, rfl, Nat.le_refl _, fun _ _ => rfl⟩ hs.kept hBsz (by intro k e; injection e; omega)
  clear hs
  go_wp2_with fail
  go_ret
  exact ⟨n, rfl, HE.out, HW.out⟩
end YtpefdgaijeefoaaDoor
end Go.Proofs

/-
  Decoded: the text of a float8 is read, and laid into a datum. Conditions: what ParseFloat gave.
  By an AI agent. No person has read it.
-/
import Derived.Test.YtpefdgaijeefoaaDoorW18
import Derived.Test.YtpefdgaijeefoaaDoorW13
import Derived.Lib.ConvBytes
import Derived.Laws.IdiomStrings
namespace Go.Proofs
open Go.RowKit Go.Lib Ieee
namespace YtpefdgaijeefoaaDoor

/-- what strconv.ParseFloat gives at a text, wherever the program has come to. -/
def Pf (s : ByteArray) (v : Nat) : Prop := ∀ B w, Base2 B w → Calls Tryd.prog 23 #[.string s, .int .i64 64] w fun y w' => y = .returned (.tuple #[.float .f64 v, .nilIface]) ∧ Below B w w'
theorem Base2.up {B B' : Nat} {w : World} (h : Base2 B w) (h1 : B ≤ B') (h2 : B' ≤ w.heap.size) : Base2 B' w := by
  obtain ⟨⟨a, b, c, d, e⟩, f, F, o, g1, g2, g3⟩ := h
  exact ⟨⟨by omega, h2, c, fun w' hb => d w' (hb.mono h1), e⟩, f, F, o, by omega, g2, g3⟩

theorem addr_add0 (b j : Nat) : (⟨b, 0, none⟩ : Addr).add j = ⟨b, j, none⟩ := by
  unfold Addr.add
  by_cases h : j = 0
  · rw [if_pos h, h]
  · rw [if_neg h, Nat.zero_add]
theorem conv_there (s : ByteArray) (w : World) : ∃ sl w1, (convert 9 39 (.string s)).run Tryd.prog w = .ok sl w1 ∧ (convert 39 9 sl).run Tryd.prog w1 = .ok (.string s) w1 ∧ Below w.heap.size w w1 ∧ w.heap.size + 1 ≤ w1.heap.size := by
  refine ⟨_, _, Lib.run_convert_string_bytes w 9 39 5 s Tryd.underlying9 Tryd.underlying39 Tryd.underlying5, ?_, ?_, ?_⟩
  · have h := run_convert_bytes_back (P := Tryd.prog) (Lib.bytesWorld w 5 s) 39 9 5 ⟨w.heap.size, 0, none⟩ (grownCap w s.size 0 5) s.data.toList Tryd.underlying39 Tryd.underlying5 Tryd.underlying9 (fun j hj => by
      rw [addr_add0, Lib.bytesWorld_cell w 5 s j (by rwa [Array.length_toList] at hj)]
      simp [List.getD, List.getElem?_eq_getElem hj])
    have e : s.data.toList.length = s.size := Array.length_toList
    rw [e] at h
    rw [h]
  · exact ⟨rfl, rfl, rfl, by rw [Lib.bytesWorld_size]; omega, fun k hk => Lib.bytesWorld_at_old w 5 s k hk⟩
  · rw [Lib.bytesWorld_size]; exact Nat.le_refl _

theorem dec13 (B : Nat) (s : ByteArray) (v : Nat) (sl : Value) (w : World) (hB : Base2 B w) (hP : Pf s v) (hc : (convert 39 9 sl).run Tryd.prog w = .ok (.string s) w) :
    Calls Tryd.prog 13 #[.pointer none, sl, .int .u32 701] w fun y w' => y = .returned (.tuple #[.iface 22 (.float .f64 v), .nilIface]) ∧ Below B w w' := by
  have H := Lib.hid (hP B w hB)
  clear hP hB
  go_enter Tryd.func13, Tryd.ntmps13
  go_wp2_with fail
  refine Calls.mono H.out ?_
  rintro e' w' ⟨rfl, hb⟩
  have HB := Lib.hid hb
  clear hb
  go_wp2_with fail
  go_returns
  exact ⟨rfl, HB.out⟩
theorem run_store_flt (P : Program) (w : World) (a : Addr) (n : Nat) (m : Mode) : (store a (.float .f64 n) m).run P w = stored P w a (.float .f64 n) m := run_store P w a _ m rfl
attribute [local go_sem] run_store_flt
theorem ta22 (v : Value) (w : World) : (Instr.typeAssert (.iface 22 v) 20 22 true).run Tryd.prog w = .ok (.tuple #[v, .bool true]) w := by
  simp [Instr.typeAssert, run_underlying Tryd.underlying22]
theorem ta2 (v : Value) (w : World) : (Instr.typeAssert (.iface 22 v) 20 2 true).run Tryd.prog w = .ok (.tuple #[.int .i64 0, .bool false]) w := by
  simp [Instr.typeAssert, run_underlying Tryd.underlying2, Tryd.zeroValue2]
theorem ta55 (v : Value) (w : World) : (Instr.typeAssert (.iface 22 v) 20 55 true).run Tryd.prog w = .ok (.tuple #[.agg #[.int .i64 0, .int .i64 0, .int .i64 0], .bool false]) w := by
  simp [Instr.typeAssert, run_underlying Tryd.underlying55, Tryd.zeroValue55]
set_option maxRecDepth 100000 in
theorem plain14 (v : Nat) (B : Nat) (w : World) (hB : B ≤ w.heap.size) : Calls Tryd.prog 14 #[.iface 22 (.float .f64 v)] w fun y w' => y = .returned (.iface 22 (.float .f64 v)) ∧ Below B w w' := by
  have hb0 := Lib.hid hB
  have t55 := ta55
  clear hB
  go_enter Tryd.func14, Tryd.ntmps14
  go_wp2_with fail
  go_ret
  exact ⟨rfl, Below.alloc (Below.refl B w) hb0.out _⟩
/-- the datum of a float8. -/
def dat (v : Nat) : Value := .agg #[.int .i64 2, .int .i64 0, .float .f64 v, .string ⟨#[]⟩, .bool false, .int .i64 0, .int .i64 0, .int .i64 0, .int .i64 0, .int .i64 0, .int .i64 0, .int .i64 0, .int .i64 0]
set_option maxRecDepth 100000 in
theorem datum9 (v : Nat) (B : Nat) (w : World) (hB : B ≤ w.heap.size) : Calls Tryd.prog 9 #[.iface 22 (.float .f64 v), .nilIface] w fun y w' => y = .returned (.tuple #[dat v, .bool true]) ∧ Below B w w' := by
  have hb0 := Lib.hid hB
  clear hB
  have t2 := ta2
  have t22 := ta22
  go_enter Tryd.func9, Tryd.ntmps9
  go_wp2_with fail
  go_returns
  exact ⟨rfl, Below.alloc (Below.refl B w) hb0.out _⟩
theorem dec10 (B : Nat) (s : ByteArray) (v : Nat) (sl : Value) (w : World) (hB : Base2 B w) (hP : Pf s v) (hc : (convert 39 9 sl).run Tryd.prog w = .ok (.string s) w) :
    Calls Tryd.prog 10 #[sl, .int .u32 701] w fun y w' => y = .returned (.tuple #[.iface 22 (.float .f64 v), .nilIface]) ∧ Below B w w' := by
  have H := Lib.hid (dec13 B s v sl w hB hP hc)
  have hsz := hB.base.sz
  clear hP hB hc
  go_enter Tryd.func10, Tryd.ntmps10
  go_wp2_with fail
  refine Calls.mono H.out ?_
  rintro e' w' ⟨rfl, hb⟩
  have h14 := Lib.hid (plain14 v B w' (Nat.le_trans hsz hb.size))
  have HB := Lib.hid hb
  clear hb
  go_wp2_with fail
  refine Calls.mono h14.out ?_
  rintro e' w2 ⟨rfl, hb⟩
  have HB2 := Lib.hid (HB.out.trans hb)
  clear hb
  go_wp2_with fail
  go_returns
  exact ⟨rfl, HB2.out⟩
/-- the new datum. -/
def o27 : Obj := .cells #[.int .i64 0, .int .i64 0, .float .f64 0, .string ⟨#[]⟩, .bool false, .int .i64 0, .int .i64 0, .int .i64 0, .int .i64 0, .int .i64 0, .int .i64 0, .int .i64 0, .int .i64 0] 27
set_option maxRecDepth 100000 in
set_option maxHeartbeats 1600000 in
theorem dec5 (B : Nat) (s : ByteArray) (v : Nat) (w : World) (hB : Base2 B w) (hP : Pf s v) :
    Calls Tryd.prog 5 #[.int .u32 701, .string s] w fun y w' => y = .returned (.tuple #[dat v, .bool true]) ∧ Below B w w' := by
  have hsz := hB.base.sz
  obtain ⟨sl, w2, cv, cb, hb2, hs2⟩ := conv_there s (w.alloc o27)
  have hs1 : (w.alloc o27).heap.size = w.heap.size + 1 := by simp
  have hB2 : Base2 B w2 := hB.below ((Below.alloc (Below.refl B w) hsz o27).trans (hb2.mono (by omega)))
  have h10 := Lib.hid (dec10 w2.heap.size s v sl w2 (hB2.up hB2.base.sz (Nat.le_refl _)) hP cb)
  have hBw2 : B ≤ w2.heap.size := by omega
  have HB2 := Lib.hid hb2
  have HBW : Hid (Below B w w2) := (Below.alloc (Below.refl B w) hsz o27).trans (hb2.mono (by omega))
  have cv' : (convert 9 39 (.string s)).run Tryd.prog (w.alloc (.cells #[.int .i64 0, .int .i64 0, .float .f64 0, .string ⟨#[]⟩, .bool false, .int .i64 0, .int .i64 0, .int .i64 0, .int .i64 0, .int .i64 0, .int .i64 0, .int .i64 0, .int .i64 0] 27)) = .ok sl w2 := cv
  clear hB hP cb hb2 hB2 cv
  go_enter Tryd.func5, Tryd.ntmps5
  go_wp2_with fail
  refine Calls.mono h10.out ?_
  rintro e' w3 ⟨rfl, hb3⟩
  have h9 := Lib.hid (datum9 v w2.heap.size w3 hb3.size)
  have HB3 := Lib.hid hb3
  clear hb3
  go_wp2_with fail
  refine Calls.mono h9.out ?_
  rintro e' w4 ⟨rfl, hb4⟩
  unfold dat
  have HB4 := Lib.hid (HB3.out.trans hb4)
  clear hb4
  have HK : Hid ((∀ k, w4.cell? ⟨w.heap.size, k, none⟩ = (w.alloc o27).cell? ⟨w.heap.size, k, none⟩) ∧ (∀ k, w4.frozen? ⟨w.heap.size, k, none⟩ = (w.alloc o27).frozen? ⟨w.heap.size, k, none⟩)) := by
    constructor
    · intro k
      rw [HB4.out.cell (p := ⟨w.heap.size, k, none⟩) (show w.heap.size < w2.heap.size by omega), HB2.out.cell (p := ⟨w.heap.size, k, none⟩) (show w.heap.size < (w.alloc o27).heap.size by omega)]
    · intro k
      rw [HB4.out.frozen (p := ⟨w.heap.size, k, none⟩) (show w.heap.size < w2.heap.size by omega), HB2.out.frozen (p := ⟨w.heap.size, k, none⟩) (show w.heap.size < (w.alloc o27).heap.size by omega)]
  unfold o27 at HK
  have c0 : w4.cell? ⟨w.heap.size, 0, none⟩ = some (.int .i64 0) := by rw [HK.out.1 0]; rw [World.cell?_alloc_new]; rfl
  have f0 : w4.frozen? ⟨w.heap.size, 0, none⟩ = false := by rw [HK.out.2 0]; go_simp
  have c1 : w4.cell? ⟨w.heap.size, 1, none⟩ = some (.int .i64 0) := by rw [HK.out.1 1]; rw [World.cell?_alloc_new]; rfl
  have f1 : w4.frozen? ⟨w.heap.size, 1, none⟩ = false := by rw [HK.out.2 1]; go_simp
  have c2 : w4.cell? ⟨w.heap.size, 2, none⟩ = some (.float .f64 0) := by rw [HK.out.1 2]; rw [World.cell?_alloc_new]; rfl
  have f2 : w4.frozen? ⟨w.heap.size, 2, none⟩ = false := by rw [HK.out.2 2]; go_simp
  have c3 : w4.cell? ⟨w.heap.size, 3, none⟩ = some (.string ⟨#[]⟩) := by rw [HK.out.1 3]; rw [World.cell?_alloc_new]; rfl
  have f3 : w4.frozen? ⟨w.heap.size, 3, none⟩ = false := by rw [HK.out.2 3]; go_simp
  have c4 : w4.cell? ⟨w.heap.size, 4, none⟩ = some (.bool false) := by rw [HK.out.1 4]; rw [World.cell?_alloc_new]; rfl
  have f4 : w4.frozen? ⟨w.heap.size, 4, none⟩ = false := by rw [HK.out.2 4]; go_simp
  have c5 : w4.cell? ⟨w.heap.size, 5, none⟩ = some (.int .i64 0) := by rw [HK.out.1 5]; rw [World.cell?_alloc_new]; rfl
  have f5 : w4.frozen? ⟨w.heap.size, 5, none⟩ = false := by rw [HK.out.2 5]; go_simp
  have c6 : w4.cell? ⟨w.heap.size, 6, none⟩ = some (.int .i64 0) := by rw [HK.out.1 6]; rw [World.cell?_alloc_new]; rfl
  have f6 : w4.frozen? ⟨w.heap.size, 6, none⟩ = false := by rw [HK.out.2 6]; go_simp
  have c7 : w4.cell? ⟨w.heap.size, 7, none⟩ = some (.int .i64 0) := by rw [HK.out.1 7]; rw [World.cell?_alloc_new]; rfl
  have f7 : w4.frozen? ⟨w.heap.size, 7, none⟩ = false := by rw [HK.out.2 7]; go_simp
  have c8 : w4.cell? ⟨w.heap.size, 8, none⟩ = some (.int .i64 0) := by rw [HK.out.1 8]; rw [World.cell?_alloc_new]; rfl
  have f8 : w4.frozen? ⟨w.heap.size, 8, none⟩ = false := by rw [HK.out.2 8]; go_simp
  have c9 : w4.cell? ⟨w.heap.size, 9, none⟩ = some (.int .i64 0) := by rw [HK.out.1 9]; rw [World.cell?_alloc_new]; rfl
  have f9 : w4.frozen? ⟨w.heap.size, 9, none⟩ = false := by rw [HK.out.2 9]; go_simp
  have c10 : w4.cell? ⟨w.heap.size, 10, none⟩ = some (.int .i64 0) := by rw [HK.out.1 10]; rw [World.cell?_alloc_new]; rfl
  have f10 : w4.frozen? ⟨w.heap.size, 10, none⟩ = false := by rw [HK.out.2 10]; go_simp
  have c11 : w4.cell? ⟨w.heap.size, 11, none⟩ = some (.int .i64 0) := by rw [HK.out.1 11]; rw [World.cell?_alloc_new]; rfl
  have f11 : w4.frozen? ⟨w.heap.size, 11, none⟩ = false := by rw [HK.out.2 11]; go_simp
  have c12 : w4.cell? ⟨w.heap.size, 12, none⟩ = some (.int .i64 0) := by rw [HK.out.1 12]; rw [World.cell?_alloc_new]; rfl
  have f12 : w4.frozen? ⟨w.heap.size, 12, none⟩ = false := by rw [HK.out.2 12]; go_simp
  go_wp2_with fail
  obtain ⟨w5, hw5⟩ : ∃ x, (((((((((((((w4.setCell ⟨w.heap.size, 0, none⟩ (.int .i64 2)).setCell ⟨w.heap.size, 1, none⟩ (.int .i64 0)).setCell ⟨w.heap.size, 2, none⟩ (.float .f64 v)).setCell ⟨w.heap.size, 3, none⟩ (.string ⟨#[]⟩)).setCell ⟨w.heap.size, 4, none⟩ (.bool false)).setCell ⟨w.heap.size, 5, none⟩ (.int .i64 0)).setCell ⟨w.heap.size, 6, none⟩ (.int .i64 0)).setCell ⟨w.heap.size, 7, none⟩ (.int .i64 0)).setCell ⟨w.heap.size, 8, none⟩ (.int .i64 0)).setCell ⟨w.heap.size, 9, none⟩ (.int .i64 0)).setCell ⟨w.heap.size, 10, none⟩ (.int .i64 0)).setCell ⟨w.heap.size, 11, none⟩ (.int .i64 0)).setCell ⟨w.heap.size, 12, none⟩ (.int .i64 0)) = x := ⟨_, rfl⟩
  have HW5 := Lib.hid hw5
  clear hw5
  have r0 : (((((((((((((w4.setCell ⟨w.heap.size, 0, none⟩ (.int .i64 2)).setCell ⟨w.heap.size, 1, none⟩ (.int .i64 0)).setCell ⟨w.heap.size, 2, none⟩ (.float .f64 v)).setCell ⟨w.heap.size, 3, none⟩ (.string ⟨#[]⟩)).setCell ⟨w.heap.size, 4, none⟩ (.bool false)).setCell ⟨w.heap.size, 5, none⟩ (.int .i64 0)).setCell ⟨w.heap.size, 6, none⟩ (.int .i64 0)).setCell ⟨w.heap.size, 7, none⟩ (.int .i64 0)).setCell ⟨w.heap.size, 8, none⟩ (.int .i64 0)).setCell ⟨w.heap.size, 9, none⟩ (.int .i64 0)).setCell ⟨w.heap.size, 10, none⟩ (.int .i64 0)).setCell ⟨w.heap.size, 11, none⟩ (.int .i64 0)).setCell ⟨w.heap.size, 12, none⟩ (.int .i64 0)).cell? ⟨w.heap.size, 0, none⟩ = some (.int .i64 2) := by go_simp
  rw [HW5.out] at r0
  have r1 : (((((((((((((w4.setCell ⟨w.heap.size, 0, none⟩ (.int .i64 2)).setCell ⟨w.heap.size, 1, none⟩ (.int .i64 0)).setCell ⟨w.heap.size, 2, none⟩ (.float .f64 v)).setCell ⟨w.heap.size, 3, none⟩ (.string ⟨#[]⟩)).setCell ⟨w.heap.size, 4, none⟩ (.bool false)).setCell ⟨w.heap.size, 5, none⟩ (.int .i64 0)).setCell ⟨w.heap.size, 6, none⟩ (.int .i64 0)).setCell ⟨w.heap.size, 7, none⟩ (.int .i64 0)).setCell ⟨w.heap.size, 8, none⟩ (.int .i64 0)).setCell ⟨w.heap.size, 9, none⟩ (.int .i64 0)).setCell ⟨w.heap.size, 10, none⟩ (.int .i64 0)).setCell ⟨w.heap.size, 11, none⟩ (.int .i64 0)).setCell ⟨w.heap.size, 12, none⟩ (.int .i64 0)).cell? ⟨w.heap.size, 1, none⟩ = some (.int .i64 0) := by go_simp
  rw [HW5.out] at r1
  have r2 : (((((((((((((w4.setCell ⟨w.heap.size, 0, none⟩ (.int .i64 2)).setCell ⟨w.heap.size, 1, none⟩ (.int .i64 0)).setCell ⟨w.heap.size, 2, none⟩ (.float .f64 v)).setCell ⟨w.heap.size, 3, none⟩ (.string ⟨#[]⟩)).setCell ⟨w.heap.size, 4, none⟩ (.bool false)).setCell ⟨w.heap.size, 5, none⟩ (.int .i64 0)).setCell ⟨w.heap.size, 6, none⟩ (.int .i64 0)).setCell ⟨w.heap.size, 7, none⟩ (.int .i64 0)).setCell ⟨w.heap.size, 8, none⟩ (.int .i64 0)).setCell ⟨w.heap.size, 9, none⟩ (.int .i64 0)).setCell ⟨w.heap.size, 10, none⟩ (.int .i64 0)).setCell ⟨w.heap.size, 11, none⟩ (.int .i64 0)).setCell ⟨w.heap.size, 12, none⟩ (.int .i64 0)).cell? ⟨w.heap.size, 2, none⟩ = some (.float .f64 v) := by go_simp
  rw [HW5.out] at r2
  have r3 : (((((((((((((w4.setCell ⟨w.heap.size, 0, none⟩ (.int .i64 2)).setCell ⟨w.heap.size, 1, none⟩ (.int .i64 0)).setCell ⟨w.heap.size, 2, none⟩ (.float .f64 v)).setCell ⟨w.heap.size, 3, none⟩ (.string ⟨#[]⟩)).setCell ⟨w.heap.size, 4, none⟩ (.bool false)).setCell ⟨w.heap.size, 5, none⟩ (.int .i64 0)).setCell ⟨w.heap.size, 6, none⟩ (.int .i64 0)).setCell ⟨w.heap.size, 7, none⟩ (.int .i64 0)).setCell ⟨w.heap.size, 8, none⟩ (.int .i64 0)).setCell ⟨w.heap.size, 9, none⟩ (.int .i64 0)).setCell ⟨w.heap.size, 10, none⟩ (.int .i64 0)).setCell ⟨w.heap.size, 11, none⟩ (.int .i64 0)).setCell ⟨w.heap.size, 12, none⟩ (.int .i64 0)).cell? ⟨w.heap.size, 3, none⟩ = some (.string ⟨#[]⟩) := by go_simp
  rw [HW5.out] at r3
  have r4 : (((((((((((((w4.setCell ⟨w.heap.size, 0, none⟩ (.int .i64 2)).setCell ⟨w.heap.size, 1, none⟩ (.int .i64 0)).setCell ⟨w.heap.size, 2, none⟩ (.float .f64 v)).setCell ⟨w.heap.size, 3, none⟩ (.string ⟨#[]⟩)).setCell ⟨w.heap.size, 4, none⟩ (.bool false)).setCell ⟨w.heap.size, 5, none⟩ (.int .i64 0)).setCell ⟨w.heap.size, 6, none⟩ (.int .i64 0)).setCell ⟨w.heap.size, 7, none⟩ (.int .i64 0)).setCell ⟨w.heap.size, 8, none⟩ (.int .i64 0)).setCell ⟨w.heap.size, 9, none⟩ (.int .i64 0)).setCell ⟨w.heap.size, 10, none⟩ (.int .i64 0)).setCell ⟨w.heap.size, 11, none⟩ (.int .i64 0)).setCell ⟨w.heap.size, 12, none⟩ (.int .i64 0)).cell? ⟨w.heap.size, 4, none⟩ = some (.bool false) := by go_simp
  rw [HW5.out] at r4
  have r5 : (((((((((((((w4.setCell ⟨w.heap.size, 0, none⟩ (.int .i64 2)).setCell ⟨w.heap.size, 1, none⟩ (.int .i64 0)).setCell ⟨w.heap.size, 2, none⟩ (.float .f64 v)).setCell ⟨w.heap.size, 3, none⟩ (.string ⟨#[]⟩)).setCell ⟨w.heap.size, 4, none⟩ (.bool false)).setCell ⟨w.heap.size, 5, none⟩ (.int .i64 0)).setCell ⟨w.heap.size, 6, none⟩ (.int .i64 0)).setCell ⟨w.heap.size, 7, none⟩ (.int .i64 0)).setCell ⟨w.heap.size, 8, none⟩ (.int .i64 0)).setCell ⟨w.heap.size, 9, none⟩ (.int .i64 0)).setCell ⟨w.heap.size, 10, none⟩ (.int .i64 0)).setCell ⟨w.heap.size, 11, none⟩ (.int .i64 0)).setCell ⟨w.heap.size, 12, none⟩ (.int .i64 0)).cell? ⟨w.heap.size, 5, none⟩ = some (.int .i64 0) := by go_simp
  rw [HW5.out] at r5
  have r6 : (((((((((((((w4.setCell ⟨w.heap.size, 0, none⟩ (.int .i64 2)).setCell ⟨w.heap.size, 1, none⟩ (.int .i64 0)).setCell ⟨w.heap.size, 2, none⟩ (.float .f64 v)).setCell ⟨w.heap.size, 3, none⟩ (.string ⟨#[]⟩)).setCell ⟨w.heap.size, 4, none⟩ (.bool false)).setCell ⟨w.heap.size, 5, none⟩ (.int .i64 0)).setCell ⟨w.heap.size, 6, none⟩ (.int .i64 0)).setCell ⟨w.heap.size, 7, none⟩ (.int .i64 0)).setCell ⟨w.heap.size, 8, none⟩ (.int .i64 0)).setCell ⟨w.heap.size, 9, none⟩ (.int .i64 0)).setCell ⟨w.heap.size, 10, none⟩ (.int .i64 0)).setCell ⟨w.heap.size, 11, none⟩ (.int .i64 0)).setCell ⟨w.heap.size, 12, none⟩ (.int .i64 0)).cell? ⟨w.heap.size, 6, none⟩ = some (.int .i64 0) := by go_simp
  rw [HW5.out] at r6
  have r7 : (((((((((((((w4.setCell ⟨w.heap.size, 0, none⟩ (.int .i64 2)).setCell ⟨w.heap.size, 1, none⟩ (.int .i64 0)).setCell ⟨w.heap.size, 2, none⟩ (.float .f64 v)).setCell ⟨w.heap.size, 3, none⟩ (.string ⟨#[]⟩)).setCell ⟨w.heap.size, 4, none⟩ (.bool false)).setCell ⟨w.heap.size, 5, none⟩ (.int .i64 0)).setCell ⟨w.heap.size, 6, none⟩ (.int .i64 0)).setCell ⟨w.heap.size, 7, none⟩ (.int .i64 0)).setCell ⟨w.heap.size, 8, none⟩ (.int .i64 0)).setCell ⟨w.heap.size, 9, none⟩ (.int .i64 0)).setCell ⟨w.heap.size, 10, none⟩ (.int .i64 0)).setCell ⟨w.heap.size, 11, none⟩ (.int .i64 0)).setCell ⟨w.heap.size, 12, none⟩ (.int .i64 0)).cell? ⟨w.heap.size, 7, none⟩ = some (.int .i64 0) := by go_simp
  rw [HW5.out] at r7
  have r8 : (((((((((((((w4.setCell ⟨w.heap.size, 0, none⟩ (.int .i64 2)).setCell ⟨w.heap.size, 1, none⟩ (.int .i64 0)).setCell ⟨w.heap.size, 2, none⟩ (.float .f64 v)).setCell ⟨w.heap.size, 3, none⟩ (.string ⟨#[]⟩)).setCell ⟨w.heap.size, 4, none⟩ (.bool false)).setCell ⟨w.heap.size, 5, none⟩ (.int .i64 0)).setCell ⟨w.heap.size, 6, none⟩ (.int .i64 0)).setCell ⟨w.heap.size, 7, none⟩ (.int .i64 0)).setCell ⟨w.heap.size, 8, none⟩ (.int .i64 0)).setCell ⟨w.heap.size, 9, none⟩ (.int .i64 0)).setCell ⟨w.heap.size, 10, none⟩ (.int .i64 0)).setCell ⟨w.heap.size, 11, none⟩ (.int .i64 0)).setCell ⟨w.heap.size, 12, none⟩ (.int .i64 0)).cell? ⟨w.heap.size, 8, none⟩ = some (.int .i64 0) := by go_simp
  rw [HW5.out] at r8
  have r9 : (((((((((((((w4.setCell ⟨w.heap.size, 0, none⟩ (.int .i64 2)).setCell ⟨w.heap.size, 1, none⟩ (.int .i64 0)).setCell ⟨w.heap.size, 2, none⟩ (.float .f64 v)).setCell ⟨w.heap.size, 3, none⟩ (.string ⟨#[]⟩)).setCell ⟨w.heap.size, 4, none⟩ (.bool false)).setCell ⟨w.heap.size, 5, none⟩ (.int .i64 0)).setCell ⟨w.heap.size, 6, none⟩ (.int .i64 0)).setCell ⟨w.heap.size, 7, none⟩ (.int .i64 0)).setCell ⟨w.heap.size, 8, none⟩ (.int .i64 0)).setCell ⟨w.heap.size, 9, none⟩ (.int .i64 0)).setCell ⟨w.heap.size, 10, none⟩ (.int .i64 0)).setCell ⟨w.heap.size, 11, none⟩ (.int .i64 0)).setCell ⟨w.heap.size, 12, none⟩ (.int .i64 0)).cell? ⟨w.heap.size, 9, none⟩ = some (.int .i64 0) := by go_simp
  rw [HW5.out] at r9
  have r10 : (((((((((((((w4.setCell ⟨w.heap.size, 0, none⟩ (.int .i64 2)).setCell ⟨w.heap.size, 1, none⟩ (.int .i64 0)).setCell ⟨w.heap.size, 2, none⟩ (.float .f64 v)).setCell ⟨w.heap.size, 3, none⟩ (.string ⟨#[]⟩)).setCell ⟨w.heap.size, 4, none⟩ (.bool false)).setCell ⟨w.heap.size, 5, none⟩ (.int .i64 0)).setCell ⟨w.heap.size, 6, none⟩ (.int .i64 0)).setCell ⟨w.heap.size, 7, none⟩ (.int .i64 0)).setCell ⟨w.heap.size, 8, none⟩ (.int .i64 0)).setCell ⟨w.heap.size, 9, none⟩ (.int .i64 0)).setCell ⟨w.heap.size, 10, none⟩ (.int .i64 0)).setCell ⟨w.heap.size, 11, none⟩ (.int .i64 0)).setCell ⟨w.heap.size, 12, none⟩ (.int .i64 0)).cell? ⟨w.heap.size, 10, none⟩ = some (.int .i64 0) := by go_simp
  rw [HW5.out] at r10
  have r11 : (((((((((((((w4.setCell ⟨w.heap.size, 0, none⟩ (.int .i64 2)).setCell ⟨w.heap.size, 1, none⟩ (.int .i64 0)).setCell ⟨w.heap.size, 2, none⟩ (.float .f64 v)).setCell ⟨w.heap.size, 3, none⟩ (.string ⟨#[]⟩)).setCell ⟨w.heap.size, 4, none⟩ (.bool false)).setCell ⟨w.heap.size, 5, none⟩ (.int .i64 0)).setCell ⟨w.heap.size, 6, none⟩ (.int .i64 0)).setCell ⟨w.heap.size, 7, none⟩ (.int .i64 0)).setCell ⟨w.heap.size, 8, none⟩ (.int .i64 0)).setCell ⟨w.heap.size, 9, none⟩ (.int .i64 0)).setCell ⟨w.heap.size, 10, none⟩ (.int .i64 0)).setCell ⟨w.heap.size, 11, none⟩ (.int .i64 0)).setCell ⟨w.heap.size, 12, none⟩ (.int .i64 0)).cell? ⟨w.heap.size, 11, none⟩ = some (.int .i64 0) := by go_simp
  rw [HW5.out] at r11
  have r12 : (((((((((((((w4.setCell ⟨w.heap.size, 0, none⟩ (.int .i64 2)).setCell ⟨w.heap.size, 1, none⟩ (.int .i64 0)).setCell ⟨w.heap.size, 2, none⟩ (.float .f64 v)).setCell ⟨w.heap.size, 3, none⟩ (.string ⟨#[]⟩)).setCell ⟨w.heap.size, 4, none⟩ (.bool false)).setCell ⟨w.heap.size, 5, none⟩ (.int .i64 0)).setCell ⟨w.heap.size, 6, none⟩ (.int .i64 0)).setCell ⟨w.heap.size, 7, none⟩ (.int .i64 0)).setCell ⟨w.heap.size, 8, none⟩ (.int .i64 0)).setCell ⟨w.heap.size, 9, none⟩ (.int .i64 0)).setCell ⟨w.heap.size, 10, none⟩ (.int .i64 0)).setCell ⟨w.heap.size, 11, none⟩ (.int .i64 0)).setCell ⟨w.heap.size, 12, none⟩ (.int .i64 0)).cell? ⟨w.heap.size, 12, none⟩ = some (.int .i64 0) := by go_simp
  rw [HW5.out] at r12
  have HB5 : Hid (Below B w w5) := by
    unfold Hid
    rw [← HW5.out]
    exact ((((((((((((((HBW.out.trans (HB4.out.mono hBw2)).setCell hsz _).setCell hsz _).setCell hsz _).setCell hsz _).setCell hsz _).setCell hsz _).setCell hsz _).setCell hsz _).setCell hsz _).setCell hsz _).setCell hsz _).setCell hsz _).setCell hsz _)
  rw [HW5.out]
  refine bodyPost_ret (v := .tuple #[dat v, .bool true]) (by simp [results, Tryd.results5, go_sem, r0, r1, r2, r3, r4, r5, r6, r7, r8, r9, r10, r11, r12]; try rfl) rfl ?_
  exact ⟨rfl, HB5.out⟩
end YtpefdgaijeefoaaDoor
end Go.Proofs

/-
  FormatFloat AND Real: the text as a string. Conditions: the tables read as the library's text lays them.
  By an AI agent. No person has read it.
-/
import Derived.Test.YtpefdgaijeefoaaDoorW12
import Derived.Laws.MakeOwn
namespace Go.Proofs
open Go.RowKit Go.Lib
namespace YtpefdgaijeefoaaDoor

/-- what ftoa64 gives at x in a row of one's own: a text of which P holds. -/
def Ftoa (B x : Nat) (P : List Int → Prop) : Prop := ∀ (D : Nat) (w : World), Base B w → B ≤ D → Row w D 0 [] →
    Calls Tryd.prog 26 #[.slice (some ⟨D, 0, none⟩) 0 24, .float .f64 x, .int .u8 103, .int .i64 (-1)] w fun e w' =>
      ∃ n L, P L ∧ e = .returned (.slice (some ⟨D, 0, none⟩) n 24) ∧ Row w' D n L ∧ Below B w w'

theorem conv_row {w : World} {D n : Nat} {L : List Int} (h : Row w D n L) : (convert 39 9 (.slice (some ⟨D, 0, none⟩) n 24)).run Tryd.prog w = .ok (.string (strOfNums L)) w :=
  run_convert_bytes_arg w 39 5 Tryd.underlying39 Tryd.underlying5 D 0 n 24 L h.len (fun i hi => by rw [Nat.zero_add]; exact h.cell i hi) 9 Tryd.underlying9

theorem make24 (w : World) : ∃ w1, (Instr.makeSlice 39 (.int .i64 0) (.int .i64 (max 3 24))).run Tryd.prog w = .ok (.slice (some ⟨w.heap.size, 0, none⟩) 0 24) w1 ∧ Row w1 w.heap.size 0 [] ∧ Below w.heap.size w w1 := by
  obtain ⟨i0, hi, hz0, hz1, hz2⟩ := info_parts info5
  have h := run_makeSlice (P := Tryd.prog) (w := w) 39 5 i0 (.int .u8 0) Tryd.underlying39 hi hz0 .i64 .i64 0 (max 3 24) (by decide) (by decide) (by rw [hz1]; decide) (by rw [hz2]; decide) (by decide)
  have hs : (max 3 24 : Int).toNat * i0.size = 24 := by rw [hz1]; rfl
  rw [hs] at h
  exact ⟨_, h, ⟨rfl, by omega, madeCells (Value.int .u8 0).cells 24, by
    show (w.heap.push _)[w.heap.size]? = _
    exact Array.getElem?_push_size, by kernel_rfl, rfl⟩, Below.alloc (Below.refl _ w) (Nat.le_refl _) _⟩

set_option maxRecDepth 100000 in
theorem ff15 (B x : Nat) (P : List Int → Prop) (w : World) (hB : Base B w) (hF : Ftoa B x P) :
    Calls Tryd.prog 15 #[.float .f64 x, .int .u8 103, .int .i64 (-1), .int .i64 64] w fun e w' => ∃ L, P L ∧ e = .returned (.string (strOfNums L)) ∧ Below B w w' := by
  obtain ⟨w1, mk, hR, hb⟩ := make24 w
  have hBw : Below B w w1 := hb.mono hB.sz
  have h := Lib.hid (hF w.heap.size w1 (hB.below hBw) hB.sz hR)
  have HB := Lib.hid hBw
  clear hB hF hR hb hBw
  go_enter Tryd.func15, Tryd.ntmps15
  go_wp2_with fail
  refine Calls.mono h.out ?_
  rintro e' w2 ⟨n, L, hP, rfl, hR, hb⟩
  have cv := conv_row hR
  have HP := Lib.hid hP
  have HB2 : Hid (Below B w w2) := HB.out.trans hb
  clear hP hR hb
  go_wp2_with fail
  go_ret
  exact ⟨L, HP.out, rfl, HB2.out⟩
theorem ff11 (B x : Nat) (P : List Int → Prop) (w : World) (hB : Base B w) (hF : Ftoa B x P) :
    Calls Tryd.prog 11 #[.float .f64 x, .int .u8 103, .int .i64 (-1), .int .i64 64] w fun e w' => ∃ L, P L ∧ e = .returned (.string (strOfNums L)) ∧ Below B w w' := by
  have h := Lib.hid (ff15 B x P w hB hF)
  clear hB hF
  go_enter Tryd.func11, Tryd.ntmps11
  go_wp2_with fail
  refine Calls.mono h.out ?_
  rintro e' w2 ⟨L, hP, rfl, hb⟩
  have HP := Lib.hid hP
  have HB2 := Lib.hid hb
  clear hP hb
  go_wp2_with fail
  go_ret
  exact ⟨L, HP.out, rfl, HB2.out⟩
theorem real6 (B x : Nat) (P : List Int → Prop) (w : World) (hB : Base B w) (hF : Ftoa B x P) :
    Calls Tryd.prog 6 #[.float .f64 x] w fun e w' => ∃ L, P L ∧ e = .returned (.string (strOfNums L)) ∧ Below B w w' := by
  have h := Lib.hid (ff11 B x P w hB hF)
  clear hB hF
  go_enter Tryd.func6, Tryd.ntmps6
  go_wp2_with fail
  refine Calls.mono h.out ?_
  rintro e' w2 ⟨L, hP, rfl, hb⟩
  have HP := Lib.hid hP
  have HB2 := Lib.hid hb
  clear hP hb
  go_wp2_with fail
  go_ret
  exact ⟨L, HP.out, rfl, HB2.out⟩
end YtpefdgaijeefoaaDoor
end Go.Proofs

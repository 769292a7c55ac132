/-
  THE LAW's OWN FUNCTION: it answers true. Conditions: what Real and ParseFloat gave.
  By an AI agent. No person has read it.
-/
import Derived.Test.YtpefdgaijeefoaaDoorW20
namespace Go.Proofs
open Go.RowKit Go.Lib Ieee
namespace YtpefdgaijeefoaaDoor
attribute [local go_sem] run_store_flt

theorem law_nan (x : Nat) (w : World) (hx : x < 18446744073709551616) (hf : fin x = false) : Calls Tryd.prog 3 #[.float .f64 x] w fun e w' => e = .returned (.bool true) ∧ Below w.heap.size w w' := by
  have h4 := Lib.hid (real7_any x w hx)
  have HF := Lib.hid hf
  clear hf
  go_enter Tryd.func3, Tryd.ntmps3
  go_wp2_with fail
  refine Calls.mono h4.out ?_
  rintro e' w' ⟨rfl, rfl⟩
  rw [HF.out]
  go_wp2_with fail
  go_ret
  exact ⟨rfl, Below.refl _ _⟩
set_option maxRecDepth 100000 in
set_option maxHeartbeats 1600000 in
theorem law_fin (x B : Nat) (P : List Int → Prop) (w : World) (hB : Base2 B w) (hx : x < 18446744073709551616) (hf : fin x = true) (hF : Ftoa B x P) (hP : ∀ L, P L → Pf (strOfNums L) x) :
    Calls Tryd.prog 3 #[.float .f64 x] w fun e w' => e = .returned (.bool true) ∧ Below B w w' := by
  have h4 := Lib.hid (real7_any x w hx)
  have h6 := Lib.hid (real6 B x P w hB.base hF)
  have HB := Lib.hid hB
  have HP := Lib.hid hP
  have HF := Lib.hid hf
  have ord : (FloatKind.f64.format.order x x == some .eq) = true := by
    have h := hf
    unfold fin at h
    simp only [Bool.and_eq_true, Bool.not_eq_true', bne_eq_false_iff_eq] at h
    rw [h.1]; rfl
  have HO := Lib.hid ord
  clear hB hF hP hf ord
  go_enter Tryd.func3, Tryd.ntmps3
  go_wp2_with fail
  refine Calls.mono h4.out ?_
  rintro e' w' ⟨rfl, rfl⟩
  rw [HF.out]
  go_wp2_with fail
  refine Calls.mono h6.out ?_
  rintro e' w2 ⟨L, hL, rfl, hb⟩
  have q2 := HP.out L hL
  have hsz := HB.out.base.sz
  have h5 := Lib.hid (dec5 B (strOfNums L) x w2 (HB.out.below hb) q2)
  have HB2 := Lib.hid hb
  clear hb hL q2
  go_wp2_with fail
  refine Calls.mono h5.out ?_
  rintro e' w3 ⟨rfl, hb⟩
  have HB3 := Lib.hid (HB2.out.trans hb)
  have hsz3 : B ≤ w3.heap.size := Nat.le_trans hsz HB3.out.size
  clear hb
  unfold dat
  have ord := HO.out
  go_wp2_with fail
  go_ret
  exact ⟨rfl, HB3.out.alloc hsz3 _⟩
end YtpefdgaijeefoaaDoor
end Go.Proofs

/-
  THE SMALL FUNCTIONS OF THE WAY, each by its contract: logarithms, roundings, conversions of bools, bits of floats, the tests for NaN and infinity. Conditions: the sizes that are named.
  By an AI agent. No person has read it.
-/
import Derived.Test.YtpefdgaijeefoaaDoorProg
import Derived.Test.YtpefdgaijeefoaaDoorM4
import Derived.WalkKit
import Derived.ProofKit
import Derived.WalkLawsBesides
import Derived.IntWalk
import Derived.Handy
import Derived.BigQuiet
import Derived.Deep.QuietTactic
import Derived.Laws.Externs
import Derived.Laws.BitsAllLaws
import Derived.Lib.Hide
namespace Go.Proofs
open Go.RowKit Go.Lib
namespace YtpefdgaijeefoaaDoor

theorem ret_int {k : IntKind} {a b : Int} (h : a = b) : Ending.returned (.int k a) = .returned (.int k b) := by rw [h]
theorem ret_bool {a b : Bool} (h : a = b) : Ending.returned (.bool a) = .returned (.bool b) := by rw [h]
theorem ret_flt {a b : Nat} (h : a = b) : Ending.returned (.float .f64 a) = .returned (.float .f64 b) := by rw [h]
theorem u64_wrap (n : Int) (h0 : 0 ≤ n) (h1 : n < 18446744073709551616) : IntKind.u64.wrap n = n := by
  simp [IntKind.wrap, IntKind.signed, IntKind.bits]; omega
theorem u64_wrap_neg (n : Int) (h0 : n < 0) (h1 : -18446744073709551616 ≤ n) : IntKind.u64.wrap n = n + 18446744073709551616 := by
  simp [IntKind.wrap, IntKind.signed, IntKind.bits]; omega

theorem ext17 (b : Nat) (w : World) : (callFunc 17 #[.float .f64 b]).run Tryd.prog w = .ok (.value (.int .u64 b)) w := by
  rw [run_callFunc_extern (e := Extern.MathFloatBits.float64bits) Tryd.func17 (by decide +kernel) (by decide +kernel) (by kernel_rfl) (by kernel_rfl)]
  rfl
theorem ext16 (n : Int) (w : World) : (callFunc 16 #[.int .u64 n]).run Tryd.prog w = .ok (.value (.float .f64 n.toNat)) w := by
  rw [run_callFunc_extern (e := Extern.MathFloatBits.float64frombits) Tryd.func16 (by decide +kernel) (by decide +kernel) (by kernel_rfl) (by kernel_rfl)]
  rfl
theorem ext30 (b : Nat) (w : World) : (callFunc 30 #[.float .f64 b]).run Tryd.prog w = .ok (.value (.int .u64 b)) w := by
  rw [run_callFunc_extern (e := Extern.MathFloatBits.float64bits) Tryd.func30 (by decide +kernel) (by decide +kernel) (by kernel_rfl) (by kernel_rfl)]
  rfl
theorem ext61 (n : Int) (w : World) : (callFunc 61 #[.int .u64 n]).run Tryd.prog w = .ok (.value (.float .f64 n.toNat)) w := by
  rw [run_callFunc_extern (e := Extern.MathFloatBits.float64frombits) Tryd.func61 (by decide +kernel) (by decide +kernel) (by kernel_rfl) (by kernel_rfl)]
  rfl

theorem log2Pow10_any (x : Int) (w : World) (h0 : -2000 ≤ x) (h1 : x ≤ 2000) :
    Calls Tryd.prog 46 #[.int .i64 x] w fun e w' => e = .returned (.int .i64 (lpw x)) ∧ w = w' := by
  go_enter Tryd.func46, Tryd.ntmps46
  go_wp2
  go_ret
  exact ⟨rfl, rfl⟩
theorem log10Pow2_any (x : Int) (w : World) (h0 : -2000 ≤ x) (h1 : x ≤ 2000) :
    Calls Tryd.prog 38 #[.int .i64 x] w fun e w' => e = .returned (.int .i64 (x * 78913 / 262144)) ∧ w = w' := by
  go_enter Tryd.func38, Tryd.ntmps38
  go_wp2
  go_ret
  exact ⟨rfl, rfl⟩
theorem skewed_any (x : Int) (w : World) (h0 : -2000 ≤ x) (h1 : x ≤ 2000) :
    Calls Tryd.prog 44 #[.int .i64 x] w fun e w' => e = .returned (.int .i64 ((x * 631305 - 261663) / 2097152)) ∧ w = w' := by
  go_enter Tryd.func44, Tryd.ntmps44
  go_wp2
  go_ret
  exact ⟨rfl, rfl⟩
theorem floor_any (x : Nat) (w : World) (h1 : x < 18446744073709551616) :
    Calls Tryd.prog 50 #[.int .u64 x] w fun e w' => e = .returned (.int .u64 ((x / 4 : Nat) : Int)) ∧ w = w' := by
  go_enter Tryd.func50, Tryd.ntmps50
  go_wp2
  go_ret
  exact ⟨rfl, rfl⟩
theorem ceil_any (x : Nat) (w : World) (h1 : x < 18446744073709551600) :
    Calls Tryd.prog 49 #[.int .u64 x] w fun e w' => e = .returned (.int .u64 (((x + 3) / 4 : Nat) : Int)) ∧ w = w' := by
  go_enter Tryd.func49, Tryd.ntmps49
  go_wp2
  go_ret
  exact ⟨rfl, rfl⟩
theorem round_any (x : Nat) (w : World) (h1 : x < 18446744073709551600) :
    Calls Tryd.prog 51 #[.int .u64 x] w fun e w' => e = .returned (.int .u64 (rnd x)) ∧ w = w' := by
  go_enter Tryd.func51, Tryd.ntmps51
  go_wp2
  go_ret
  refine ⟨ret_int ?_, rfl⟩
  have e : bits .and .u64 ((x : Int) / 4) 1 = ((x / 4 % 2 : Nat) : Int) := by
    have := u64_and_nat (x / 4) 1 (by omega) (by omega)
    rw [Nat.and_one_is_mod] at this
    exact this
  rw [e, u64_wrap _ (by omega) (by omega)]
  unfold rnd
  omega
theorem nudge_pos (x k : Nat) (w : World) (h1 : x < 18446744073709551600) (hk1 : k ≤ 1) :
    Calls Tryd.prog 48 #[.int .u64 x, .int .i64 k] w fun e w' => e = .returned (.int .u64 ((x + k : Nat) : Int)) ∧ w = w' := by
  go_enter Tryd.func48, Tryd.ntmps48
  go_wp2
  go_ret
  exact ⟨rfl, rfl⟩
theorem nudge_neg (x k : Nat) (w : World) (h0 : 1 ≤ x) (h1 : x < 18446744073709551600) (hk1 : k ≤ 1) :
    Calls Tryd.prog 48 #[.int .u64 x, .int .i64 (-(k : Int))] w fun e w' => e = .returned (.int .u64 ((x - k : Nat) : Int)) ∧ w = w' := by
  go_enter Tryd.func48, Tryd.ntmps48
  go_wp2
  go_ret
  refine ⟨ret_int ?_, rfl⟩
  rcases Nat.eq_zero_or_pos k with r | r
  · subst r; simp [u64_wrap]; exact u64_wrap _ (by omega) (by omega)
  · obtain rfl : k = 1 := by omega
    rw [u64_wrap_neg (-((1 : Nat) : Int)) (by omega) (by omega)]
    simp [IntKind.wrap, IntKind.signed, IntKind.bits]; omega
theorem bool2u_any (b : Bool) (w : World) :
    Calls Tryd.prog 57 #[.bool b] w fun e w' => e = .returned (.int .u64 ((if b then 1 else 0 : Nat) : Int)) ∧ w = w' := by
  cases b <;> (go_enter Tryd.func57, Tryd.ntmps57; go_wp2; go_ret; exact ⟨rfl, rfl⟩)
theorem bool2i_any (b : Bool) (w : World) :
    Calls Tryd.prog 53 #[.bool b] w fun e w' => e = .returned (.int .i64 ((if b then 1 else 0 : Nat) : Int)) ∧ w = w' := by
  cases b <;> (go_enter Tryd.func53, Tryd.ntmps53; go_wp2; go_ret; exact ⟨rfl, rfl⟩)
theorem unmin_any (w : World) :
    Calls Tryd.prog 71 #[.int .u64 9007199254740992] w fun e w' => e = .returned (.int .u64 36028797018963966) ∧ w = w' := by
  go_enter Tryd.func71, Tryd.ntmps71; go_wp2; go_ret; exact ⟨rfl, rfl⟩
theorem isNaN_any (x : Nat) (b : Bool) (w : World) (h : (FloatKind.f64.format.order x x != some .eq) = b) :
    Calls Tryd.prog 7 #[.float .f64 x] w fun e w' => e = .returned (.bool b) ∧ w = w' := by
  have H := Lib.hid h
  clear h
  go_enter Tryd.func7, Tryd.ntmps7
  go_wp2
  go_ret
  exact ⟨ret_bool H.out, rfl⟩
theorem abs_any (x : Nat) (w : World) (hx : x < 18446744073709551616) :
    Calls Tryd.prog 12 #[.float .f64 x] w fun e w' => e = .returned (.float .f64 (x % 9223372036854775808)) ∧ w = w' := by
  have e17 := ext17
  have e16 := ext16
  go_enter Tryd.func12, Tryd.ntmps12
  go_wp2
  go_ret
  refine ⟨ret_flt ?_, rfl⟩
  have := u64_andNot_nat x 9223372036854775808 hx (by omega)
  have e : x &&& (18446744073709551615 - 9223372036854775808) = x % 9223372036854775808 := by
    have := Nat.and_two_pow_sub_one_eq_mod x 63
    exact this
  rw [e] at this
  exact congrArg Int.toNat this
theorem isInf_any (x : Nat) (b : Bool) (w : World) (hx : x < 18446744073709551616) (h : (FloatKind.f64.format.order (x % 9223372036854775808) 9218868437227405311 == some .gt) = b) :
    Calls Tryd.prog 8 #[.float .f64 x, .int .i64 0] w fun e w' => e = .returned (.bool b) ∧ w = w' := by
  have H := Lib.hid h
  clear h
  go_enter Tryd.func8, Tryd.ntmps8
  go_wp2_with (go_at_call 12; refine (abs_any _ _ hx).mono ?_; rintro e w' ⟨rfl, rfl⟩)
  go_ret
  exact ⟨ret_bool H.out, rfl⟩
/-- a word is finite: it is not a NaN, and not above the greatest number. -/
def fin (x : Nat) : Bool := !(FloatKind.f64.format.order x x != some .eq) && !(FloatKind.f64.format.order (x % 9223372036854775808) 9218868437227405311 == some .gt)
theorem real7_any (x : Nat) (w : World) (hx : x < 18446744073709551616) :
    Calls Tryd.prog 4 #[.float .f64 x] w fun e w' => e = .returned (.bool (fin x)) ∧ w = w' := by
  obtain ⟨a, ha⟩ : ∃ a, (FloatKind.f64.format.order x x != some .eq) = a := ⟨_, rfl⟩
  obtain ⟨b, hb⟩ : ∃ b, (FloatKind.f64.format.order (x % 9223372036854775808) 9218868437227405311 == some .gt) = b := ⟨_, rfl⟩
  have F : Hid (fin x = (!a && !b)) := by unfold fin; rw [ha, hb]; rfl
  have HA := Lib.hid ha
  have HB := Lib.hid hb
  clear ha hb
  cases a <;> cases b
  all_goals
    go_enter Tryd.func4, Tryd.ntmps4
    go_wp2_with (first
      | (go_at_call 7; refine (isNaN_any _ _ _ HA.out).mono ?_; rintro e w' ⟨rfl, rfl⟩)
      | (go_at_call 8; refine (isInf_any _ _ _ hx HB.out).mono ?_; rintro e w' ⟨rfl, rfl⟩))
    go_ret
    exact ⟨ret_bool F.out.symm, rfl⟩
end YtpefdgaijeefoaaDoor
end Go.Proofs

/-
  SCALING: prescale lays the table's row, uscale reads it. Conditions: the sizes that are named; the table reads as the library's text lays it.
  By an AI agent. No person has read it.
-/
import Derived.Test.YtpefdgaijeefoaaDoorW1
import Derived.Test.YtpefdgaijeefoaaDoorShelf
import Derived.Below
namespace Go.Proofs
open Go.RowKit Go.Lib
namespace YtpefdgaijeefoaaDoor

theorem prescale_any (b : Nat) (e p lp : Int) (i : Nat) (w : World) (hi : i < 696) (hp : p = (i : Int) - 348) (he : -5000 ≤ e) (he2 : e ≤ 5000) (hl : -5000 ≤ lp) (hl2 : lp ≤ 5000)
    (g1 : w.cell? ⟨3, i * 2, none⟩ = some (.int .u64 (row i).1)) (g2 : w.cell? ⟨3, i * 2 + 1, none⟩ = some (.int .u64 (row i).2)) 
    (c0 : ∃ v, w.cell? ⟨b, 0, none⟩ = some v) (c1 : ∃ v, w.cell? ⟨b, 1, none⟩ = some v) (c2 : ∃ v, w.cell? ⟨b, 2, none⟩ = some v)
    (f0 : w.frozen? ⟨b, 0, none⟩ = false) (f1 : w.frozen? ⟨b, 1, none⟩ = false) (f2 : w.frozen? ⟨b, 2, none⟩ = false) :
    Calls Tryd.prog 45 #[.pointer (some ⟨b, 0, none⟩), .int .i64 e, .int .i64 p, .int .i64 lp] w fun x w' => x = .returned (.tuple #[])
      ∧ w' = ((w.setCell ⟨b, 0, none⟩ (.int .u64 (row i).1)).setCell ⟨b, 1, none⟩ (.int .u64 (row i).2)).setCell ⟨b, 2, none⟩ (.int .i64 (-(e + lp + 3))) := by
  subst hp
  obtain ⟨v0, c0⟩ := c0
  obtain ⟨v1, c1⟩ := c1
  obtain ⟨v2, c2⟩ := c2
  generalize (row i).1 = H at *
  generalize (row i).2 = L at *
  go_enter Tryd.func45, Tryd.ntmps45
  go_wp2
  go_returns
  exact ⟨rfl, rfl⟩

theorem mul64_named (x y h m : Nat) (hx : x < 18446744073709551616) (hy : y < 18446744073709551616) (eh : x * y / 18446744073709551616 = h) (em : x * y % 18446744073709551616 = m) (w : World) :
    Calls Tryd.prog 56 #[.int .u64 x, .int .u64 y] w fun e w' => e = .returned (.tuple #[.int .u64 (h : Int), .int .u64 (m : Int)]) ∧ w = w' := by
  subst eh em
  exact (Tryd.bits_Mul64 x y hx hy w).mono fun e w' ⟨a, b⟩ => ⟨a, b.symm⟩

theorem shr_cast (h s : Nat) : (h : Int) / 2 ^ s = ((h / 2 ^ s : Nat) : Int) := by push_cast; rfl
theorem k63 (s : Nat) (hs : s < 64) : bits .and .i64 (s : Int) 63 = s := by
  have : ∀ t : Fin 64, bits .and .i64 (t.val : Int) 63 = t.val := by decide +kernel
  exact this ⟨s, hs⟩
theorem uscale_a (x b H L s h m : Nat) (w : World) (hx : x < 18446744073709551616) (hH : H < 18446744073709551616) (hs : s < 64)
    (c0 : w.cell? ⟨b, 0, none⟩ = some (.int .u64 H)) (c2 : w.cell? ⟨b, 2, none⟩ = some (.int .i64 s))
    (eh : x * H / 18446744073709551616 = h) (em : x * H % 18446744073709551616 = m) (hh : h < 18446744073709551616)
    (c : ¬ h / 2 ^ s * 2 ^ s = h) :
    Calls Tryd.prog 47 #[.int .u64 x, .pointer (some ⟨b, 0, none⟩)] w fun e w' => e = .returned (.int .u64 (us x H L s)) ∧ ∃ n, w' = w.drewN n := by
  have k63 := k63 s hs
  have T : (IntKind.u64.wrap ((h : Int) / 2 ^ s * 2 ^ s) != (h : Int)) = true := by
    rw [shr_cast, show ((h / 2 ^ s : Nat) : Int) * 2 ^ s = ((h / 2 ^ s * 2 ^ s : Nat) : Int) by push_cast; rfl]
    have := Nat.div_mul_le_self h (2 ^ s)
    generalize h / 2 ^ s * 2 ^ s = t at *
    rw [u64_wrap _ (by omega) (by omega)]
    simp; omega
  have U : Hid (us x H L s = h / 2 ^ s ||| 1) := by unfold us; rw [eh, if_neg c]; rfl
  have hle : h / 2 ^ s ≤ h := Nat.div_le_self _ _
  have EH := Lib.hid eh
  have EM := Lib.hid em
  have HL := Lib.hid hle
  clear eh em c hle
  go_enter Tryd.func47, Tryd.ntmps47
  go_wp2_with fail
  ((with_reducible refine (mul64_named _ _ h m hx hH EH.out EM.out _).mono ?_); rintro e w' ⟨rfl, rfl⟩)
  go_wp2_with fail
  go_ret
  refine ⟨ret_int ?_, 0, rfl⟩
  have hl := HL.out
  rw [U.out, shr_cast]
  exact u64_or_nat (h / 2 ^ s) 1 (by omega) (by omega)
theorem bool2u_same (b : Bool) (w : World) :
    Calls Tryd.prog 57 #[.bool b] w fun e w' => e = .returned (.int .u64 ((if b then 1 else 0 : Nat) : Int)) ∧ w' = w :=
  (bool2u_any b w).mono fun _ _ ⟨a, b⟩ => ⟨a, b.symm⟩
theorem bool2u_f (w : World) : Calls Tryd.prog 57 #[.bool false] w fun e w' => e = .returned (.int .u64 0) ∧ w' = w := bool2u_same false w
theorem bool2u_t (w : World) : Calls Tryd.prog 57 #[.bool true] w fun e w' => e = .returned (.int .u64 1) ∧ w' = w := bool2u_same true w
theorem uscale_b1 (x b H L s h m c l : Nat) (w : World) (hx : x < 18446744073709551616) (hH : H < 18446744073709551616) (hL : L < 18446744073709551616) (hs : s < 64)
    (c0 : w.cell? ⟨b, 0, none⟩ = some (.int .u64 H)) (c1 : w.cell? ⟨b, 1, none⟩ = some (.int .u64 L)) (c2 : w.cell? ⟨b, 2, none⟩ = some (.int .i64 s))
    (eh : x * H / 18446744073709551616 = h) (em : x * H % 18446744073709551616 = m) (ec : x * L / 18446744073709551616 = c) (el : x * L % 18446744073709551616 = l)
    (hh : h < 18446744073709551616) (hh1 : 1 ≤ h) (hm : m < 18446744073709551616) (hc : c < 18446744073709551615)
    (d : h / 2 ^ s * 2 ^ s = h) (hmc : m < c) :
    Calls Tryd.prog 47 #[.int .u64 x, .pointer (some ⟨b, 0, none⟩)] w fun e w' => e = .returned (.int .u64 (us x H L s)) ∧ ∃ n, w' = w.drewN n := by
  have k63 := k63 s hs
  have T : (IntKind.u64.wrap ((h : Int) / 2 ^ s * 2 ^ s) != (h : Int)) = false := by
    rw [shr_cast, show ((h / 2 ^ s : Nat) : Int) * 2 ^ s = ((h / 2 ^ s * 2 ^ s : Nat) : Int) by push_cast; rfl, d]
    rw [u64_wrap _ (by omega) (by omega)]
    simp
  have U : Hid (us x H L s = (h - (if m < c then 1 else 0)) / 2 ^ s ||| (if 1 < (m + 18446744073709551616 - c) % 18446744073709551616 then 1 else 0)) := by
    unfold us; rw [eh, em, ec, if_pos d]; rfl
  have EH := Lib.hid eh
  have EM := Lib.hid em
  have EC := Lib.hid ec
  have EL := Lib.hid el
  clear eh em ec el d
  have G : decide (1 < IntKind.u64.wrap ((m : Int) - c)) = true := by
    rw [u64_wrap_neg _ (by omega) (by omega)]; simp; omega
  have R : Hid (us x H L s = (h - 1) / 2 ^ s ||| 1) := by
    rw [U.out, if_pos hmc, if_pos (by omega)]; rfl
  have hd : (h - 1) / 2 ^ s ≤ h := Nat.le_trans (Nat.div_le_self _ _) (by omega)
  have HD := Lib.hid hd
  have S1 : Hid ((h : Int) - 1 = ((h - 1 : Nat) : Int)) := by unfold Hid; omega
  clear U hd
  go_enter Tryd.func47, Tryd.ntmps47
  go_wp2_with fail
  ((with_reducible refine (mul64_named _ _ h m hx hH EH.out EM.out _).mono ?_); rintro e w' ⟨rfl, rfl⟩)
  go_wp2_with fail
  ((with_reducible refine (mul64_named _ _ c l hx hL EC.out EL.out _).mono ?_); rintro e w' ⟨rfl, rfl⟩)
  go_wp2_with (go_at_call 57; refine (bool2u_any _ _).mono ?_; rintro e w' ⟨rfl, rfl⟩)
  go_quiet ((go_at_call 57; exact Calls.quiet_of_same (bool2u_t _)))
  go_wp2
  go_ret
  refine ⟨ret_int ?_, _, rfl⟩
  have hd := HD.out
  rw [R.out, S1.out, shr_cast]
  exact u64_or_nat ((h - 1) / 2 ^ s) 1 (by omega) (by omega)
theorem uscale_b2 (x b H L s h m c l : Nat) (w : World) (hx : x < 18446744073709551616) (hH : H < 18446744073709551616) (hL : L < 18446744073709551616) (hs : s < 64)
    (c0 : w.cell? ⟨b, 0, none⟩ = some (.int .u64 H)) (c1 : w.cell? ⟨b, 1, none⟩ = some (.int .u64 L)) (c2 : w.cell? ⟨b, 2, none⟩ = some (.int .i64 s))
    (eh : x * H / 18446744073709551616 = h) (em : x * H % 18446744073709551616 = m) (ec : x * L / 18446744073709551616 = c) (el : x * L % 18446744073709551616 = l)
    (hh : h < 18446744073709551616) (hh1 : 1 ≤ h) (hm : m < 18446744073709551616) (hc : c < 18446744073709551615)
    (d : h / 2 ^ s * 2 ^ s = h) (hmc : ¬ m < c) (h2 : 1 < m - c) :
    Calls Tryd.prog 47 #[.int .u64 x, .pointer (some ⟨b, 0, none⟩)] w fun e w' => e = .returned (.int .u64 (us x H L s)) ∧ ∃ n, w' = w.drewN n := by
  have k63 := k63 s hs
  have T : (IntKind.u64.wrap ((h : Int) / 2 ^ s * 2 ^ s) != (h : Int)) = false := by
    rw [shr_cast, show ((h / 2 ^ s : Nat) : Int) * 2 ^ s = ((h / 2 ^ s * 2 ^ s : Nat) : Int) by push_cast; rfl, d]
    rw [u64_wrap _ (by omega) (by omega)]
    simp
  have U : Hid (us x H L s = (h - (if m < c then 1 else 0)) / 2 ^ s ||| (if 1 < (m + 18446744073709551616 - c) % 18446744073709551616 then 1 else 0)) := by
    unfold us; rw [eh, em, ec, if_pos d]; rfl
  have EH := Lib.hid eh
  have EM := Lib.hid em
  have EC := Lib.hid ec
  have EL := Lib.hid el
  clear eh em ec el d
  have G : decide (1 < (m : Int) - c) = true := by simp; omega
  have R : Hid (us x H L s = h / 2 ^ s ||| 1) := by
    rw [U.out, if_neg hmc, if_pos (by omega)]; rfl
  have hd : h / 2 ^ s ≤ h := Nat.div_le_self _ _
  have HD := Lib.hid hd
  clear U hd
  go_enter Tryd.func47, Tryd.ntmps47
  go_wp2_with fail
  ((with_reducible refine (mul64_named _ _ h m hx hH EH.out EM.out _).mono ?_); rintro e w' ⟨rfl, rfl⟩)
  go_wp2_with fail
  ((with_reducible refine (mul64_named _ _ c l hx hL EC.out EL.out _).mono ?_); rintro e w' ⟨rfl, rfl⟩)
  go_wp2_with (go_at_call 57; refine (bool2u_any _ _).mono ?_; rintro e w' ⟨rfl, rfl⟩)
  go_quiet ((go_at_call 57; exact Calls.quiet_of_same (bool2u_t _)))
  go_wp2
  go_ret
  refine ⟨ret_int ?_, _, rfl⟩
  have hd := HD.out
  rw [R.out, shr_cast]
  exact u64_or_nat (h / 2 ^ s) 1 (by omega) (by omega)
theorem uscale_b3 (x b H L s h m c l : Nat) (w : World) (hx : x < 18446744073709551616) (hH : H < 18446744073709551616) (hL : L < 18446744073709551616) (hs : s < 64)
    (c0 : w.cell? ⟨b, 0, none⟩ = some (.int .u64 H)) (c1 : w.cell? ⟨b, 1, none⟩ = some (.int .u64 L)) (c2 : w.cell? ⟨b, 2, none⟩ = some (.int .i64 s))
    (eh : x * H / 18446744073709551616 = h) (em : x * H % 18446744073709551616 = m) (ec : x * L / 18446744073709551616 = c) (el : x * L % 18446744073709551616 = l)
    (hh : h < 18446744073709551616) (hh1 : 1 ≤ h) (hm : m < 18446744073709551616) (hc : c < 18446744073709551615)
    (d : h / 2 ^ s * 2 ^ s = h) (hmc : ¬ m < c) (h2 : ¬ 1 < m - c) :
    Calls Tryd.prog 47 #[.int .u64 x, .pointer (some ⟨b, 0, none⟩)] w fun e w' => e = .returned (.int .u64 (us x H L s)) ∧ ∃ n, w' = w.drewN n := by
  have k63 := k63 s hs
  have T : (IntKind.u64.wrap ((h : Int) / 2 ^ s * 2 ^ s) != (h : Int)) = false := by
    rw [shr_cast, show ((h / 2 ^ s : Nat) : Int) * 2 ^ s = ((h / 2 ^ s * 2 ^ s : Nat) : Int) by push_cast; rfl, d]
    rw [u64_wrap _ (by omega) (by omega)]
    simp
  have U : Hid (us x H L s = (h - (if m < c then 1 else 0)) / 2 ^ s ||| (if 1 < (m + 18446744073709551616 - c) % 18446744073709551616 then 1 else 0)) := by
    unfold us; rw [eh, em, ec, if_pos d]; rfl
  have EH := Lib.hid eh
  have EM := Lib.hid em
  have EC := Lib.hid ec
  have EL := Lib.hid el
  clear eh em ec el d
  have G : decide (1 < (m : Int) - c) = false := by simp; omega
  have R : Hid (us x H L s = h / 2 ^ s ||| 0) := by
    rw [U.out, if_neg hmc, if_neg (by omega)]; rfl
  have hd : h / 2 ^ s ≤ h := Nat.div_le_self _ _
  have HD := Lib.hid hd
  clear U hd
  go_enter Tryd.func47, Tryd.ntmps47
  go_wp2_with fail
  ((with_reducible refine (mul64_named _ _ h m hx hH EH.out EM.out _).mono ?_); rintro e w' ⟨rfl, rfl⟩)
  go_wp2_with fail
  ((with_reducible refine (mul64_named _ _ c l hx hL EC.out EL.out _).mono ?_); rintro e w' ⟨rfl, rfl⟩)
  go_wp2_with (go_at_call 57; refine (bool2u_any _ _).mono ?_; rintro e w' ⟨rfl, rfl⟩)
  go_quiet ((go_at_call 57; exact Calls.quiet_of_same (bool2u_f _)))
  go_wp2
  go_ret
  refine ⟨ret_int ?_, _, rfl⟩
  have hd := HD.out
  rw [R.out, shr_cast]
  exact u64_or_nat (h / 2 ^ s) 0 (by omega) (by omega)
/-- uscale: it reads the scaler, and answers as 'us' says; the world is as it was but for draws. -/
theorem uscale_any (x b H L s : Nat) (w : World) (hx : x < 18446744073709551616) (hH : H < 18446744073709551616) (hL : L < 18446744073709551616) (hs : s < 64)
    (c0 : w.cell? ⟨b, 0, none⟩ = some (.int .u64 H)) (c1 : w.cell? ⟨b, 1, none⟩ = some (.int .u64 L)) (c2 : w.cell? ⟨b, 2, none⟩ = some (.int .i64 s))
    (h1 : 18446744073709551616 ≤ x * H) :
    Calls Tryd.prog 47 #[.int .u64 x, .pointer (some ⟨b, 0, none⟩)] w fun e w' => e = .returned (.int .u64 (us x H L s)) ∧ ∃ n, w' = w.drewN n := by
  have hxH : x * H ≤ 18446744073709551615 * 18446744073709551615 := Nat.mul_le_mul (by omega) (by omega)
  have hxL : x * L ≤ 18446744073709551615 * 18446744073709551615 := Nat.mul_le_mul (by omega) (by omega)
  by_cases d : x * H / 18446744073709551616 / 2 ^ s * 2 ^ s = x * H / 18446744073709551616
  · by_cases hmc : x * H % 18446744073709551616 < x * L / 18446744073709551616
    · exact uscale_b1 x b H L s _ _ _ _ w hx hH hL hs c0 c1 c2 rfl rfl rfl rfl (by omega) (by omega) (by omega) (by omega) d hmc
    · by_cases h2 : 1 < x * H % 18446744073709551616 - x * L / 18446744073709551616
      · exact uscale_b2 x b H L s _ _ _ _ w hx hH hL hs c0 c1 c2 rfl rfl rfl rfl (by omega) (by omega) (by omega) (by omega) d hmc h2
      · exact uscale_b3 x b H L s _ _ _ _ w hx hH hL hs c0 c1 c2 rfl rfl rfl rfl (by omega) (by omega) (by omega) (by omega) d hmc h2
  · exact uscale_a x b H L s _ _ w hx hH hs c0 c2 rfl rfl (by omega) d
end YtpefdgaijeefoaaDoor
end Go.Proofs

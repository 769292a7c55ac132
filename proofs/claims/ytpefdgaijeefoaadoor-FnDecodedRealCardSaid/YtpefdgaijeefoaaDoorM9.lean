/-
  THE MODEL's FLOATS, third part: a whole number as a double; the nearest double of a great whole number; the order against 10^15. No condition beyond the sizes that are named.
  By an AI agent. No person has read it.
-/
import Derived.Test.YtpefdgaijeefoaaDoorM8
import GoSem.Core.Float
namespace Go.Proofs
namespace YtpefdgaijeefoaaDoor
open Go.Lib Ieee

theorem InI_self {m : Nat} {q : Int} (hd : Dbl m q) : InI m q (m * E2 q) := by
  have hp := hd.pos
  have hlo := hd.lo
  have e := E2_add' (q - 2) q 2 (by omega) (by omega)
  have hU := E2_pos (q - 2)
  have hl : lowq m q ≤ 4 * m - 1 := by unfold lowq; split <;> omega
  unfold InI
  rw [e]
  generalize E2 (q - 2) = U at *
  have k : m * (2 ^ 2 * U) = 4 * m * U := by rw [← Nat.mul_assoc, Nat.mul_comm m]
  rw [k]
  have a := Nat.mul_le_mul_right U hl
  have b : (4 * m - 1) * U + U = 4 * m * U := by
    rw [← Nat.succ_mul]; congr 1; omega
  have c : (4 * m + 2) * U = 4 * m * U + 2 * U := Nat.add_mul _ _ _
  omega

theorem norm_ex (M : Nat) (h0 : 0 < M) (h1 : M < 9007199254740992) : ∃ (m : Nat) (q : Int), Dbl m q ∧ 4503599627370496 ≤ m ∧ -52 ≤ q ∧ q ≤ 0 ∧ m * E2 q = M * E2 0 := by
  obtain ⟨b1, _, b3, b4⟩ := bl_bounds M h0 (by omega)
  have b5 := bitLen_le M 53 (by omega) h1
  obtain ⟨z, hz⟩ : ∃ z, 53 - bitLen M = z := ⟨_, rfl⟩
  have lt : M * 2 ^ z < 9007199254740992 := by
    have := Nat.mul_lt_mul_of_pos_right b4 (Nat.two_pow_pos z)
    rw [← Nat.pow_add, show bitLen M + z = 53 by omega] at this
    exact this
  have ge : 4503599627370496 ≤ M * 2 ^ z := by
    have := Nat.mul_le_mul_right (2 ^ z) b3
    rw [← Nat.pow_add, show bitLen M - 1 + z = 52 by omega] at this
    exact this
  refine ⟨M * 2 ^ z, -(z : Int), ⟨by omega, lt, by omega, by omega, Or.inl ge⟩, ge, by omega, by omega, ?_⟩
  rw [E2_add' (-(z : Int)) 0 z (by omega) (by omega), Nat.mul_assoc]

theorem int_right {mant : Nat} {q : Int} (hd : Dbl mant q) (M : Nat) (h : InI mant q (M * E2 0)) : FloatKind.f64.nearest (M : Int) = rung mant q := by
  have := nearest_right hd false M 0 (by omega) h
  have e : (decide ((M : Int) < 0)) = false := decide_eq_false (by omega)
  unfold FloatKind.nearest
  first
    | (rw [e]; exact this)
    | (simp only [FloatKind.encode, FloatKind.format, e]; exact this)
/-- the nearest double of a great whole number. -/
theorem round_ex (P : Nat) (h1 : 9007199254740992 ≤ P) (h2 : P < 2 ^ 110) : ∃ (m : Nat) (q : Int), Dbl m q ∧ 4503599627370496 ≤ m ∧ 1 ≤ q ∧ InI m q (P * E2 0) := by
  obtain ⟨l1, l2⟩ := log2_bounds P (by omega)
  have hl1 : 53 ≤ P.log2 := by
    refine Decidable.byContradiction fun g => ?_
    have := Nat.pow_le_pow_right (show 0 < 2 by decide) (show P.log2 + 1 ≤ 53 by omega)
    omega
  have hl2 : P.log2 ≤ 109 := by
    refine Decidable.byContradiction fun g => ?_
    have := Nat.pow_le_pow_right (show 0 < 2 by decide) (show 110 ≤ P.log2 by omega)
    omega
  obtain ⟨d, hd⟩ : ∃ d, P.log2 = d + 52 := ⟨P.log2 - 52, by omega⟩
  rw [hd] at l1 l2
  have hG := Nat.two_pow_pos d
  have eG1 : 2 ^ (d + 52) = 4503599627370496 * 2 ^ d := by rw [Nat.pow_add, Nat.mul_comm]
  have eG2 : 2 ^ (d + 52 + 1) = 9007199254740992 * 2 ^ d := by rw [show d + 52 + 1 = d + 53 by omega, Nat.pow_add, Nat.mul_comm]
  rw [eG1] at l1
  rw [eG2] at l2
  have hG2 : 2 ^ d % 2 = 0 := by
    obtain ⟨c, rfl⟩ : ∃ c, d = c + 1 := ⟨d - 1, by omega⟩
    rw [Nat.pow_succ]; omega
  -- the scale
  have hV := E2_add' ((d : Int) - 2) d 2 (by omega) (by omega)
  have hU := E2_add' 0 d d (by omega) (by omega)
  have hU0 : 2 ≤ E2 0 := by
    have := E2_add' (-1) 0 1 (by omega) (by omega)
    have := E2_pos (-1)
    omega
  have hV0 := E2_pos ((d : Int) - 2)
  have hV4 := E2_add' ((d : Int) - 2) ((d + 1 : Int) - 2) 1 (by omega) (by omega)
  generalize hGG : 2 ^ d = G at *
  have dm := Nat.div_add_mod P G
  have dl := Nat.mod_lt P hG
  have low1 : 4503599627370496 ≤ P / G := (Nat.le_div_iff_mul_le hG).2 l1
  have low2 : P / G < 9007199254740992 := (Nat.div_lt_iff_lt_mul hG).2 l2
  generalize hlow : P / G = low at *
  generalize P % G = rest at *
  generalize E2 0 = U at *
  generalize hVV : E2 ((d : Int) - 2) = V at *
  have k4 : 4 * V = G * U := by omega
  -- P on the scale
  have kP : P * U = 4 * low * V + rest * U := by
    rw [← dm, Nat.add_mul, Nat.mul_comm G low, Nat.mul_assoc low, ← k4, Nat.mul_comm 4 low, Nat.mul_assoc low]
  have rU : ∀ a b : Nat, a ≤ b → a * U ≤ b * U := fun a b h => Nat.mul_le_mul_right U h
  have low4 : 4 * low * V = low * (4 * V) := by rw [Nat.mul_comm 4 low, Nat.mul_assoc]
  by_cases hup : 2 * rest < G ∨ (2 * rest = G ∧ low % 2 = 0)
  · refine ⟨low, d, ⟨by omega, low2, by omega, by omega, Or.inl low1⟩, low1, by omega, ?_⟩
    unfold InI
    rw [hVV, kP]
    have hlq : lowq low d ≤ 4 * low - 1 := by unfold lowq; split <;> omega
    have a := Nat.mul_le_mul_right V hlq
    have b : (4 * low - 1) * V + V = 4 * low * V := by rw [← Nat.succ_mul, Nat.succ_eq_add_one, Nat.sub_add_cancel (by omega)]
    have c : (4 * low + 2) * V = 4 * low * V + 2 * V := Nat.add_mul _ _ _
    have e : 2 * rest * U + (low % 2) * U ≤ 4 * V := by
      rw [k4, ← Nat.add_mul]
      exact rU _ _ (by omega)
    have e2 : 2 * rest * U = 2 * (rest * U) := Nat.mul_assoc _ _ _
    have e3 : low % 2 * 2 ≤ low % 2 * U := Nat.mul_le_mul_left _ hU0
    omega
  · have hr : G < 2 * rest ∨ (2 * rest = G ∧ low % 2 = 1) := by omega
    by_cases hc : low + 1 = 9007199254740992
    · refine ⟨4503599627370496, d + 1, ⟨by decide, by decide, by omega, by omega, Or.inl (by decide)⟩, by decide, by omega, ?_⟩
      unfold InI
      rw [hV4, kP]
      have hlq : lowq 4503599627370496 (d + 1) = 4 * 4503599627370496 - 1 := by unfold lowq; rw [if_pos ⟨rfl, by omega⟩]
      rw [hlq]
      have hl : low = 9007199254740991 := by omega
      subst hl
      have e : G * U ≤ 2 * rest * U := rU _ _ (by omega)
      have e2 : 2 * rest * U = 2 * (rest * U) := Nat.mul_assoc _ _ _
      have e3 : rest * U ≤ G * U := rU _ _ (by omega)
      omega
    · refine ⟨low + 1, d, ⟨by omega, by omega, by omega, by omega, Or.inl (by omega)⟩, by omega, by omega, ?_⟩
      unfold InI
      rw [hVV, kP]
      have hlq : lowq (low + 1) d = 4 * (low + 1) - 2 := by unfold lowq; rw [if_neg (by omega)]
      rw [hlq]
      have b : (4 * (low + 1) - 2) * V = 4 * low * V + 2 * V := by rw [← Nat.add_mul]; congr 1
      have c : (4 * (low + 1) + 2) * V = 4 * low * V + 6 * V := by rw [← Nat.add_mul]; congr 1
      have e : G * U + ((low + 1) % 2) * U ≤ 2 * rest * U := by
        rw [← Nat.add_mul]
        exact rU _ _ (by omega)
      have e2 : 2 * rest * U = 2 * (rest * U) := Nat.mul_assoc _ _ _
      have e3 : (low + 1) % 2 * 2 ≤ (low + 1) % 2 * U := Nat.mul_le_mul_left _ hU0
      have e4 : rest * U + U ≤ G * U := by
        have := rU (rest + 1) G (by omega)
        rw [Nat.add_mul, Nat.one_mul] at this
        exact this
      omega

theorem read15 : double.read 4831355200913801216 = .number false 8000000000000000 (-3) := by decide +kernel
theorem read15n : double.read 14054727237768577024 = .number true 8000000000000000 (-3) := by decide +kernel
theorem big_gt {m : Nat} {q : Int} (hd : Dbl m q) (hm : 4503599627370496 ≤ m) (hq : 1 ≤ q) : double.order (double.word false (rung m q)) 4831355200913801216 = some .gt := by
  unfold Format.order
  rw [read_word hd, read15]
  have hmin : min q (-3 : Int) = -3 := by omega
  simp only [Datum.order, hmin, signed]
  have a : m <<< (q - -3).toNat = m * 2 ^ (q + 3).toNat := by rw [Nat.shiftLeft_eq]; congr 2
  have b : 2 ^ 4 ≤ 2 ^ (q + 3).toNat := Nat.pow_le_pow_right (by decide) (by omega)
  have c := Nat.mul_le_mul hm b
  rw [← a] at c
  have g : (8000000000000000 : Int) < ((m <<< (q - -3).toNat : Nat) : Int) := by omega
  have e : compare ((m <<< (q - -3).toNat : Nat) : Int) (8000000000000000 : Int) = .gt := by
    rw [Int.compare_eq_gt]; exact g
  exact congrArg some e
theorem big_lt {m : Nat} {q : Int} (hd : Dbl m q) (hm : 4503599627370496 ≤ m) (hq : 1 ≤ q) : double.order (double.word true (rung m q)) 14054727237768577024 = some .lt := by
  unfold Format.order
  rw [read_word hd, read15n]
  have hmin : min q (-3 : Int) = -3 := by omega
  simp only [Datum.order, hmin, signed]
  have a : m <<< (q - -3).toNat = m * 2 ^ (q + 3).toNat := by rw [Nat.shiftLeft_eq]; congr 2
  have b : 2 ^ 4 ≤ 2 ^ (q + 3).toNat := Nat.pow_le_pow_right (by decide) (by omega)
  have c := Nat.mul_le_mul hm b
  rw [← a] at c
  have g : -((m <<< (q - -3).toNat : Nat) : Int) < -(8000000000000000 : Int) := by omega
  have e : compare (-((m <<< (q - -3).toNat : Nat) : Int)) (-(8000000000000000 : Int)) = .lt := by
    rw [Int.compare_eq_lt]; exact g
  exact congrArg some e
end YtpefdgaijeefoaaDoor
end Go.Proofs

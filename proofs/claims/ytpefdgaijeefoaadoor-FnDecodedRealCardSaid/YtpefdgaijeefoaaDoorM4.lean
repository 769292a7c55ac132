/-
  READING A DECIMAL: the code's parseFloat64 gives the double in whose rounding interval the decimal lies. No condition beyond the sizes that are named.
  By an AI agent. No person has read it.
-/
import Derived.Test.YtpefdgaijeefoaaDoorM3
import Derived.Lib.ItoaNum
namespace Go.Proofs
namespace YtpefdgaijeefoaaDoor
open Go.Lib

/-- mant * 2^q is a finite double that is not nought, in the form of its word. -/
structure Dbl (mant : Nat) (q : Int) : Prop where
  pos : 0 < mant
  lt : mant < 9007199254740992
  lo : -1074 ≤ q
  hi : q ≤ 971
  norm : 4503599627370496 ≤ mant ∨ q = -1074
/-- its word without the sign. -/
def rung (mant : Nat) (q : Int) : Nat := (q + 1074).toNat * 4503599627370496 + mant
def lowq (mant : Nat) (q : Int) : Nat := if mant = 4503599627370496 ∧ q ≠ -1074 then 4 * mant - 1 else 4 * mant - 2
/-- X (a value on the one scale) lies in its rounding interval. -/
def InI (mant : Nat) (q : Int) (X : Nat) : Prop :=
  lowq mant q * E2 (q - 2) + mant % 2 ≤ X ∧ X + mant % 2 ≤ (4 * mant + 2) * E2 (q - 2)

/-- u compares with the even numbers as X / U does. -/
def Unr (u X U : Nat) : Prop := ∀ K, K % 2 = 0 → (u < K → X < K * U) ∧ (K < u → K * U < X) ∧ (u = K → X = K * U)
theorem Unr.le {u X U : Nat} (h : Unr u X U) (K : Nat) (hK : K % 2 = 0) (hX : X ≤ K * U) : u ≤ K := by
  have := (h K hK).2.1
  exact Decidable.byContradiction fun n => by have := this (by omega); omega
theorem Unr.ge {u X U : Nat} (h : Unr u X U) (K : Nat) (hK : K % 2 = 0) (hX : K * U ≤ X) : K ≤ u := by
  have := (h K hK).1
  exact Decidable.byContradiction fun n => by have := this (by omega); omega
theorem Unr.lt {u X U : Nat} (h : Unr u X U) (K : Nat) (hK : K % 2 = 0) (hX : X < K * U) : u < K := by
  have a := h.le K hK (by omega)
  have := (h K hK).2.2
  exact Decidable.byContradiction fun n => by have := this (by omega); omega
theorem Unr.gt {u X U : Nat} (h : Unr u X U) (K : Nat) (hK : K % 2 = 0) (hX : K * U < X) : K < u := by
  have a := h.ge K hK (by omega)
  have := (h K hK).2.2
  exact Decidable.byContradiction fun n => by have := this (by omega); omega
theorem Unr.half {u X U : Nat} (h : Unr u X U) : Unr (u / 2 ||| u % 2) X (2 * U) := by
  intro K hK
  have hh := h (2 * K) (by omega)
  have e : K * (2 * U) = 2 * K * U := by rw [Nat.mul_left_comm, Nat.mul_assoc]
  rw [e]
  rcases Nat.mod_two_eq_zero_or_one u with r | r
  · rw [r, Nat.or_zero]
    exact ⟨fun g => hh.1 (by omega), fun g => hh.2.1 (by omega), fun g => hh.2.2 (by omega)⟩
  · rw [r, or1]
    exact ⟨fun g => hh.1 (by omega), fun g => hh.2.1 (by omega), fun g => by omega⟩

/-- rounding half to even, as the code does it. -/
def rnd (u : Nat) : Nat := (u + 1 + u / 4 % 2) / 4
theorem rnd_mant {u X U mant : Nat} (hu : Unr u X U) (h0 : 0 < mant) (h1 : (4 * mant - 2) * U + mant % 2 ≤ X) (h2 : X + mant % 2 ≤ (4 * mant + 2) * U) : rnd u = mant := by
  have a := hu.ge (4 * mant - 2) (by omega) (by omega)
  have b := hu.le (4 * mant + 2) (by omega) (by omega)
  unfold rnd
  rcases Nat.mod_two_eq_zero_or_one mant with r | r
  · omega
  · have a' := hu.gt (4 * mant - 2) (by omega) (by omega)
    have b' := hu.lt (4 * mant + 2) (by omega) (by omega)
    omega

/-- the place of the last digit is fixed by the value. -/
theorem q_eq {mant : Nat} {q : Int} {X : Nat} (hd : Dbl mant q) (h : InI mant q X) (k : Int) (hk : -1074 ≤ k)
    (hlo : k = -1074 ∨ 18014398509481983 * E2 (k - 2) ≤ X) (hhi : X < 36028797018963966 * E2 (k - 2)) : q = k := by
  obtain ⟨i1, i2⟩ := h
  have hlt := hd.lt
  have hpos := hd.pos
  have hlo' := hd.lo
  rcases Int.lt_trichotomy q k with l | l | l
  · exfalso
    rcases hlo with r | r
    · omega
    · have e := E2_lt (q - 2) (k - 2) (by omega) (by omega)
      have p := E2_pos (q - 2)
      generalize E2 (q - 2) = a at *
      generalize E2 (k - 2) = b at *
      rcases Nat.lt_or_ge mant 9007199254740991 with m | m
      · have : (4 * mant + 2) * a ≤ 36028797018963962 * a := Nat.mul_le_mul_right a (by omega)
        omega
      · have : mant = 9007199254740991 := by omega
        subst this
        omega
  · exact l
  · exfalso
    have hn : 4503599627370496 ≤ mant := by have := hd.norm; omega
    have e := E2_lt (k - 2) (q - 2) (by omega) (by omega)
    have : 18014398509481983 ≤ lowq mant q := by unfold lowq; split <;> omega
    have := Nat.mul_le_mul_right (E2 (q - 2)) this
    generalize E2 (q - 2) = a at *
    generalize E2 (k - 2) = b at *
    omega

theorem bl_bounds (d : Nat) (h0 : 0 < d) (h : d < 18446744073709551616) : 1 ≤ bitLen d ∧ bitLen d ≤ 64 ∧ 2 ^ (bitLen d - 1) ≤ d ∧ d < 2 ^ bitLen d := by
  obtain ⟨a, b, c⟩ := bitLenAux_bounds 64 d h (by omega)
  exact ⟨a, bitLen_le d 64 (Nat.le_refl _) h, b, c⟩

/-- the scaled exponent of parseFloat64. -/
def pe (d : Nat) (p : Int) : Int := min 1074 (53 - (bitLen d : Int) - lpw p)
def pu (d : Nat) (p : Int) : Nat := usp (d * 2 ^ (64 - bitLen d)) (pe d p - (64 - (bitLen d : Int))) p

theorem pu_unr (d : Nat) (p : Int) (h1 : -328 ≤ p) (h2 : p < 333) (h0 : 0 < d) (hd : d < 144115188075855872) : Unr (pu d p) (d * T10 p) (E2 (-(pe d p) - 2)) := by
  obtain ⟨b1, _, b3, b4⟩ := bl_bounds d h0 (by omega)
  have b57 : bitLen d ≤ 57 := bitLen_le d 57 (by omega) hd
  intro K hK
  have hpe : pe d p ≤ 1074 ∧ pe d p ≤ 53 - (bitLen d : Int) - lpw p := by unfold pe; omega
  have hl := lpw_bounds p (by omega) (by omega)
  have hpe' : pe d p ≥ -1500 := by unfold pe; omega
  unfold pu
  generalize pe d p = e at *
  generalize hb : bitLen d = b at *
  have hx1 : d * 2 ^ (64 - b) < 18446744073709551616 := by
    have := Nat.mul_lt_mul_of_pos_right b4 (Nat.two_pow_pos (64 - b))
    rw [← Nat.pow_add, show b + (64 - b) = 64 by omega] at this
    exact this
  have hx2 : 4 ≤ d * 2 ^ (64 - b) := by
    have := Nat.mul_le_mul_right (2 ^ (64 - b)) b3
    rw [← Nat.pow_add, show b - 1 + (64 - b) = 63 by omega] at this
    omega
  have main := us_real (d * 2 ^ (64 - b)) (e - (64 - (b : Int))) p K (by omega) (by omega) (by omega) hx1 hx2 hK
  have a := E2_add' (-e - 2) (-(e - (64 - (b : Int))) - 2) (64 - b) (by omega) (by omega)
  rw [a] at main
  generalize usp (d * 2 ^ (64 - b)) (e - (64 - (b : Int))) p = u at *
  have hG : 0 < 2 ^ (64 - b) := Nat.two_pow_pos _
  have e1 : d * 2 ^ (64 - b) * T10 p = 2 ^ (64 - b) * (d * T10 p) := by simp only [Nat.mul_assoc, Nat.mul_left_comm]
  have e2 : K * (2 ^ (64 - b) * E2 (-e - 2)) = 2 ^ (64 - b) * (K * E2 (-e - 2)) := by rw [Nat.mul_left_comm]
  rw [e1, e2] at main
  refine ⟨fun g => Nat.lt_of_mul_lt_mul_left (main.1 g), fun g => Nat.lt_of_mul_lt_mul_left (main.2.1 g), fun g => ?_⟩
  obtain ⟨n1, n2⟩ := main.2.2 g
  -- the gap
  obtain ⟨Z, hZ⟩ : ∃ Z, K = 2 * Z := ⟨K / 2, by omega⟩
  have gp := gap_real p (d * 2 ^ (57 - b)) (Z * 2 ^ (53 - e - b - lpw p).toNat) h1 h2 (Nat.mul_pos h0 (Nat.two_pow_pos _)) (by
    have := Nat.mul_lt_mul_of_pos_right b4 (Nat.two_pow_pos (57 - b))
    rw [← Nat.pow_add, show b + (57 - b) = 57 by omega] at this
    exact this)
  have f1 := E2_add' (lpw p + 3) (56 - e - b) (53 - e - b - lpw p).toNat (by omega) (by omega)
  have f2 := E2_add' (-e - 2) (56 - e - b) (58 - b) (by omega) (by omega)
  have f3 := E2_add' (lpw p - 64) (lpw p - 62) 2 (by omega) (by omega)
  have f4 : Z * 2 ^ (53 - e - b - lpw p).toNat * E2 (lpw p + 3) = 2 ^ (57 - b) * (K * E2 (-e - 2)) := by
    rw [Nat.mul_assoc, ← f1, f2, hZ, show 58 - b = (57 - b) + 1 by omega, Nat.pow_succ]
    simp only [Nat.mul_assoc, Nat.mul_left_comm]
  have f5 : d * 2 ^ (57 - b) * T10 p = 2 ^ (57 - b) * (d * T10 p) := by simp only [Nat.mul_assoc, Nat.mul_left_comm]
  rw [f4, f5] at gp
  have f6 : 2 ^ (64 - b) = 128 * 2 ^ (57 - b) := by rw [show 64 - b = 7 + (57 - b) by omega, Nat.pow_add]
  rw [f6, Nat.mul_assoc, Nat.mul_assoc] at n1 n2
  have hp := E2_pos (lpw p - 64)
  have hQ : 0 < 2 ^ (57 - b) := Nat.two_pow_pos _
  generalize d * T10 p = X at *
  generalize K * E2 (-e - 2) = Y at *
  refine Nat.eq_of_mul_eq_mul_left hQ ?_
  generalize 2 ^ (57 - b) * X = A at *
  generalize 2 ^ (57 - b) * Y = B at *
  omega

/-- parseFloat64, without the sign. -/
def pf (d : Nat) (p : Int) : Nat :=
  let s : Int := if 36028797018963966 ≤ pu d p then 1 else 0
  let u := if 36028797018963966 ≤ pu d p then pu d p / 2 ||| pu d p % 2 else pu d p
  (-(pe d p - s) + 1074).toNat * 4503599627370496 + rnd u

theorem pf_right {mant : Nat} {q : Int} (hd : Dbl mant q) (d : Nat) (p : Int) (h1 : -328 ≤ p) (h2 : p < 333) (h0 : 0 < d) (hd57 : d < 144115188075855872)
    (h : InI mant q (d * T10 p)) :
    (pu d p < 36028797018963966 → q = -(pe d p) ∧ rnd (pu d p) = mant)
    ∧ (36028797018963966 ≤ pu d p → q = -(pe d p - 1) ∧ rnd (pu d p / 2 ||| pu d p % 2) = mant)
    ∧ -(pe d p - (64 - (bitLen d : Int)) + lpw p + 3) < 64 ∧ 0 ≤ -(pe d p - (64 - (bitLen d : Int)) + lpw p + 3) := by
  have hu := pu_unr d p h1 h2 h0 hd57
  obtain ⟨b1, b2, b3, b4⟩ := bl_bounds d h0 (by omega)
  have hl := lpw_bounds p (by omega) (by omega)
  obtain ⟨t1, t2⟩ := T10_bounds p (by omega) (by omega)
  have b57 : bitLen d ≤ 57 := bitLen_le d 57 (by omega) hd57
  have hpe : (pe d p = 1074 ∧ (1074 : Int) < 53 - (bitLen d : Int) - lpw p) ∨ (pe d p = 53 - (bitLen d : Int) - lpw p ∧ pe d p ≤ 1074) := by unfold pe; omega
  -- the value against powers of two
  have v1 : E2 (lpw p + ((bitLen d - 1 : Nat) : Int)) ≤ d * T10 p := by
    rw [E2_add (lpw p) (bitLen d - 1) (by omega)]
    exact Nat.mul_le_mul b3 t1
  have v2 : 1024 * (d * T10 p) ≤ 1023 * E2 (lpw p + 1 + (bitLen d : Nat)) := by
    rw [E2_add (lpw p + 1) (bitLen d) (by omega)]
    have := Nat.mul_le_mul (Nat.le_of_lt b4) t2
    rw [show 1024 * (d * T10 p) = d * (1024 * T10 p) by rw [Nat.mul_left_comm]]
    rw [show 1023 * (2 ^ bitLen d * E2 (lpw p + 1)) = 2 ^ bitLen d * (1023 * E2 (lpw p + 1)) by rw [Nat.mul_left_comm]]
    exact this
  obtain ⟨i1, i2⟩ := h
  have hi1 : (4 * mant - 2) * E2 (q - 2) + mant % 2 ≤ d * T10 p := by
    refine Nat.le_trans (Nat.add_le_add_right (Nat.mul_le_mul_right _ ?_) _) i1
    unfold lowq; split <;> omega
  have hpos := hd.pos
  generalize pu d p = u at *
  generalize hX : d * T10 p = X at *
  generalize pe d p = e at *
  generalize hb : bitLen d = b at *
  refine ⟨fun hlt => ?_, fun hge => ?_, ?_, ?_⟩
  · have hq : q = -e := by
      refine q_eq hd ⟨i1, i2⟩ (-e) (by omega) ?_ ?_
      · rcases hpe with ⟨r, _⟩ | ⟨r, _⟩
        · left; omega
        · right
          have a := E2_add' (-e - 2) (lpw p + ((b - 1 : Nat) : Int)) 54 (by omega) (by omega)
          generalize E2 (-e - 2) = U at *
          omega
      · exact (hu 36028797018963966 rfl).1 hlt
    subst hq
    exact ⟨rfl, rnd_mant hu hpos hi1 i2⟩
  · have hnc : e = 53 - (b : Int) - lpw p := by
      rcases hpe with ⟨r, r'⟩ | r
      · exfalso
        have a2 := E2_mono (lpw p + 1 + (b : Nat)) (-e - 2 + 55) (by omega)
        have a3 := E2_add' (-e - 2) (-e - 2 + 55) 55 (by omega) (by omega)
        have k := (hu 36028797018963966 rfl)
        have hUp := E2_pos (-e - 2)
        generalize E2 (-e - 2) = U at *
        have : 36028797018963966 * U ≤ X := by
          rcases Nat.lt_or_eq_of_le hge with g | g
          · exact Nat.le_of_lt (k.2.1 g)
          · exact Nat.le_of_eq (k.2.2 g.symm).symm
        omega
      · exact r.1
    have k := (hu 36028797018963966 rfl)
    have hge' : 36028797018963966 * E2 (-e - 2) ≤ X := by
      rcases Nat.lt_or_eq_of_le hge with g | g
      · exact Nat.le_of_lt (k.2.1 g)
      · exact Nat.le_of_eq (k.2.2 g.symm).symm
    have a1 := E2_add' (-e - 2) (-(e - 1) - 2) 1 (by omega) (by omega)
    have a2 := E2_add' (-e - 2) (lpw p + 1 + (b : Nat)) 56 (by omega) (by omega)
    have hUp := E2_pos (-e - 2)
    have hu' := hu.half
    have hq : q = -(e - 1) := by
      refine q_eq hd ⟨i1, i2⟩ (-(e - 1)) ?_ ?_ ?_
      · omega
      · right; rw [a1]; generalize E2 (-e - 2) = U at *; omega
      · rw [a1]; generalize E2 (-e - 2) = U at *; omega
    subst hq
    rw [a1] at hi1 i2
    exact ⟨rfl, rnd_mant hu' hpos hi1 i2⟩
  · -- the shift is less than 64
    rcases hpe with ⟨r, r'⟩ | r
    · refine Decidable.byContradiction fun hn => ?_
      have h2 : 2 * E2 (q - 2) + mant % 2 ≤ X := by
        refine Nat.le_trans (Nat.add_le_add_right (Nat.mul_le_mul_right _ ?_) _) hi1
        omega
      have a1 := E2_mono (-1076) (q - 2) (by have := hd.lo; omega)
      have a2 := E2_mono (lpw p + 1 + (b : Nat)) (-1076) (by omega)
      have a3 := E2_pos (q - 2)
      omega
    · omega
  · omega
end YtpefdgaijeefoaaDoor
end Go.Proofs

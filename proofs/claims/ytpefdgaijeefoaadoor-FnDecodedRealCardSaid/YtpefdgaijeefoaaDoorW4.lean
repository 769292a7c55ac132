/-
  PARSING AND PRINTING, JOINED WITH THE NUMBERS: parseFloat64 gives the word of the double in whose interval the decimal lies; shortFloat answers as 'sfd' says. Conditions: the table reads as the library's text lays it.
  By an AI agent. No person has read it.
-/
import Derived.Test.YtpefdgaijeefoaaDoorW3
import Derived.Test.YtpefdgaijeefoaaDoorM6
namespace Go.Proofs
open Go.RowKit Go.Lib
namespace YtpefdgaijeefoaaDoor

/-- the table of the powers of ten, as the walk reads it. -/
def TabOk (w : World) : Prop := 5 < w.heap.size ∧ ∀ i, i < 696 → w.cell? ⟨3, i * 2, none⟩ = some (.int .u64 (row i).1) ∧ w.cell? ⟨3, i * 2 + 1, none⟩ = some (.int .u64 (row i).2)
theorem TabOk.below {w w' : World} (h : TabOk w) (hb : Below w.heap.size w w') : TabOk w' := by
  obtain ⟨h1, h2⟩ := h
  refine ⟨Nat.lt_of_lt_of_le h1 hb.size, fun i hi => ?_⟩
  have a := hb.cell (p := ⟨3, i * 2, none⟩) (show 3 < w.heap.size by omega)
  have b := hb.cell (p := ⟨3, i * 2 + 1, none⟩) (show 3 < w.heap.size by omega)
  rw [a, b]
  exact h2 i hi

theorem us_small (x hi lo s : Nat) (hs : 1 ≤ s) (hx : x < 18446744073709551616) (hhi : hi < 18446744073709551616) : us x hi lo s < 18446744073709551500 := by
  have h1 : x * hi ≤ 18446744073709551615 * 18446744073709551615 := Nat.mul_le_mul (by omega) (by omega)
  have hG := Nat.pow_le_pow_right (show 0 < 2 by decide) hs
  have key : ∀ H : Nat, H < 18446744073709551616 → H / 2 ^ s ≤ 9223372036854775807 := fun H hH => by
    have := Nat.div_le_div_left (a := H) hG (by decide)
    omega
  unfold us
  generalize x * hi = P at *
  generalize x * lo = R at *
  have bit : ∀ (a : Nat) (b : Prop) [Decidable b], a ≤ 9223372036854775807 → a ||| (if b then 1 else 0) < 18446744073709551500 := fun a b _ ha => by
    split
    · rw [or1]; omega
    · rw [Nat.or_zero]; omega
  split
  · exact bit _ _ (key _ (by omega))
  · rw [or1]; have := key (P / 18446744073709551616) (by omega); omega

theorem rung_eq (mant : Nat) (q : Int) : rung mant q = (q + 1074).toNat * 4503599627370496 + mant := rfl
theorem parse_right {mant : Nat} {q : Int} (hd : Dbl mant q) (d : Nat) (p : Int) (neg : Bool) (w : World) (h1 : -328 ≤ p) (h2 : p < 333) (h0 : 0 < d) (hd57 : d < 144115188075855872)
    (h : InI mant q (d * T10 p)) (ht : TabOk w) :
    Calls Tryd.prog 63 #[.int .u64 d, .int .i64 p, .int .u64 (sgn neg)] w fun y w' => y = .returned (.tuple #[.float .f64 (sgn neg + rung mant q), .nilIface]) ∧ Below w.heap.size w w' := by
  obtain ⟨a, b, c1, c2⟩ := pf_right hd d p h1 h2 h0 hd57 h
  obtain ⟨b1, b2, b3, b4⟩ := bl_bounds d h0 (by omega)
  have hl := lpw_bounds p (by omega) (by omega)
  have hi : ix p < 696 := by unfold ix; omega
  have hix : p = ((ix p : Nat) : Int) - 348 := (ix_eq p (by omega)).symm
  obtain ⟨g1, g2⟩ := ht.2 (ix p) hi
  have b57 : Go.Lib.bitLen d ≤ 57 := Go.Lib.bitLen_le d 57 (by omega) hd57
  have hx1 : d * 2 ^ (64 - Go.Lib.bitLen d) < 18446744073709551616 := by
    have := Nat.mul_lt_mul_of_pos_right b4 (Nat.two_pow_pos (64 - Go.Lib.bitLen d))
    rw [← Nat.pow_add, show Go.Lib.bitLen d + (64 - Go.Lib.bitLen d) = 64 by omega] at this
    exact this
  have hx2 : 9223372036854775808 ≤ d * 2 ^ (64 - Go.Lib.bitLen d) := by
    have := Nat.mul_le_mul_right (2 ^ (64 - Go.Lib.bitLen d)) b3
    rw [← Nat.pow_add, show Go.Lib.bitLen d - 1 + (64 - Go.Lib.bitLen d) = 63 by omega] at this
    exact this
  have hpe : pe d p ≤ 53 - (Go.Lib.bitLen d : Int) - lpw p := by unfold pe; omega
  have hu1 : pu d p < 18446744073709551500 := us_small _ _ _ _ (by omega) hx1 (row_facts (ix p) hi).2.1
  have hlo := hd.lo
  have hhi := hd.hi
  have hlt := hd.lt
  rw [rung_eq]
  refine parse_any d (Go.Lib.bitLen d) (d * 2 ^ (64 - Go.Lib.bitLen d)) (-(pe d p - (64 - (Go.Lib.bitLen d : Int)) + lpw p + 3)).toNat (pu d p) mant (ix p) p (lpw p) (pe d p) (if 36028797018963966 ≤ pu d p then 1 else 0) q neg w
    b1 b2 (by omega) rfl hi hix rfl (by omega) (by omega) rfl (by omega) (by omega) rfl hx1 hx2 g1 g2 ht.1 rfl (by omega) ?_ (by omega) rfl ?_ hlo hhi hd.norm
  · unfold shf
    by_cases c : 36028797018963966 ≤ pu d p
    · rw [if_pos c]; exact (b c).2
    · rw [if_neg c]; exact (a (by omega)).2
  · by_cases c : 36028797018963966 ≤ pu d p
    · rw [if_pos c]; exact (b c).1
    · rw [if_neg c]; have := (a (by omega)).1; omega
end YtpefdgaijeefoaaDoor
end Go.Proofs

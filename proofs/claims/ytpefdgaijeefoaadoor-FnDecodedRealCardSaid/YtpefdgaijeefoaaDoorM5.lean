/-
  THE KERNEL'S CHECKS OF shortFloat: at each power of two the decimal lies in the interval; at each exponent the unit is from 1 to 10. No condition.
  By an AI agent. No person has read it.
-/
import Derived.Test.YtpefdgaijeefoaaDoorM4
namespace Go.Proofs
namespace YtpefdgaijeefoaaDoor
open Go.Lib

/-- the power of ten that shortFloat takes. -/
def sp (mant : Nat) (q : Int) : Int := if mant = 4503599627370496 ∧ q ≠ -1074 then -((q * 631305 - 261663) / 2097152) else -(q * 78913 / 262144)
def smin (mant : Nat) (q : Int) (z : Nat) : Nat := if mant = 4503599627370496 ∧ q ≠ -1074 then mant * 2 ^ z - 2 ^ (z - 2) else mant * 2 ^ z - 2 ^ (z - 1)
def smax (mant z : Nat) : Nat := mant * 2 ^ z + 2 ^ (z - 1)
def dmin (mant : Nat) (q : Int) (z : Nat) : Nat := (usp (smin mant q z) (q - z) (sp mant q) + mant % 2 + 3) / 4
def dmax (mant : Nat) (q : Int) (z : Nat) : Nat := (usp (smax mant z) (q - z) (sp mant q) - mant % 2) / 4
def dmid (mant : Nat) (q : Int) (z : Nat) : Nat := rnd (usp (mant * 2 ^ z) (q - z) (sp mant q))
def sfd (mant : Nat) (q : Int) (z : Nat) : Nat × Int :=
  if dmin mant q z ≤ dmax mant q z / 10 * 10 then (dmax mant q z / 10, -(sp mant q - 1))
  else if dmin mant q z < dmax mant q z then (dmid mant q z, -(sp mant q)) else (dmin mant q z, -(sp mant q))

def okR (mant : Nat) (q : Int) (r : Nat × Int) : Bool :=
  Nat.blt 0 r.1 && Nat.blt r.1 100000000000000000 && decide (-324 ≤ r.2) && decide (r.2 ≤ 300)
    && Nat.ble ((4 * mant - 1) * E2 (q - 2)) (r.1 * T10 r.2) && Nat.ble (r.1 * T10 r.2) ((4 * mant + 2) * E2 (q - 2))
def okIrr (q : Int) : Bool := okR 4503599627370496 q (sfd 4503599627370496 q 11)
def allQ (f : Int → Bool) : Nat → Int → Bool
  | 0, _ => true
  | n + 1, q => f q && allQ f n (q + 1)
theorem allQ_at (f : Int → Bool) : ∀ (n : Nat) (q0 q : Int), allQ f n q0 = true → q0 ≤ q → q < q0 + n → f q = true
  | 0, q0, q, _, h1, h2 => by omega
  | n + 1, q0, q, h, h1, h2 => by
    simp only [allQ, Bool.and_eq_true] at h
    by_cases e : q = q0
    · rw [e]; exact h.1
    · exact allQ_at f n (q0 + 1) q h.2 (by omega) (by omega)
set_option maxRecDepth 100000 in
theorem irr_a : allQ okIrr 700 (-1073) = true := by kernel_rfl
set_option maxRecDepth 100000 in
theorem irr_b : allQ okIrr 700 (-373) = true := by kernel_rfl
set_option maxRecDepth 100000 in
theorem irr_c : allQ okIrr 645 327 = true := by kernel_rfl
theorem irr_all (q : Int) (h1 : -1073 ≤ q) (h2 : q ≤ 971) : okIrr q = true := by
  by_cases a : q < -373
  · exact allQ_at _ _ _ q irr_a (by omega) (by omega)
  · by_cases b : q < 327
    · exact allQ_at _ _ _ q irr_b (by omega) (by omega)
    · exact allQ_at _ _ _ q irr_c (by omega) (by omega)

/-- a unit in the last place is from 1 to 10 units of the decimal; more than 1 but at nought. -/
def okUlp (q : Int) : Bool :=
  let T := T10 (q * 78913 / 262144)
  let G := E2 q
  Nat.ble T G && Nat.blt G (10 * T) && (decide (q = 0) || Nat.ble (1099511627777 * T) (1099511627776 * G))
set_option maxRecDepth 100000 in
theorem ulp_a : allQ okUlp 1023 (-1074) = true := by kernel_rfl
set_option maxRecDepth 100000 in
theorem ulp_b : allQ okUlp 1023 (-51) = true := by kernel_rfl
theorem ulp_all (q : Int) (h1 : -1074 ≤ q) (h2 : q ≤ 971) : T10 (q * 78913 / 262144) ≤ E2 q ∧ E2 q < 10 * T10 (q * 78913 / 262144) ∧ (q = 0 ∨ 1099511627777 * T10 (q * 78913 / 262144) ≤ 1099511627776 * E2 q) := by
  have : okUlp q = true := by
    by_cases a : q < -51
    · exact allQ_at _ _ _ q ulp_a (by omega) (by omega)
    · exact allQ_at _ _ _ q ulp_b (by omega) (by omega)
  simp only [okUlp, Bool.and_eq_true, Bool.or_eq_true, Nat.ble_eq, Nat.blt_eq, decide_eq_true_eq] at this
  exact ⟨this.1.1, this.1.2, this.2⟩

end YtpefdgaijeefoaaDoor
end Go.Proofs

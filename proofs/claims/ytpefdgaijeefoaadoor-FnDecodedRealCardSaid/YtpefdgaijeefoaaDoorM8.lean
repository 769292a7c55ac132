/-
  THE MODEL's FLOATS, second part: whole numbers, products and quotients by powers of ten. No condition beyond the sizes that are named.
  By an AI agent. No person has read it.
-/
import Derived.Test.YtpefdgaijeefoaaDoorM7
import Derived.Test.YtpefdgaijeefoaaDoorM6
namespace Go.Proofs
namespace YtpefdgaijeefoaaDoor
open Go.Lib Ieee

/-- the words of 10^0 .. 10^22. -/
def fpows : List Nat := [4607182418800017408, 4621819117588971520, 4636737291354636288, 4652007308841189376, 4666723172467343360, 4681608360884174848, 4696837146684686336, 4711630319722168320, 4726483295884279808, 4741671816366391296, 4756540486875873280, 4771362005757984768, 4786511204640096256, 4801453603149578240, 4816244402031689728, 4831355200913801216, 4846369599423283200, 4861130398305394688, 4876203697187506176, 4891288408196988160, 4906019910204099648, 4921056587992461136, 4936209963552724370]
def fpw (i : Nat) : Nat := fpows.getD i 0
def pn (i : Nat) : Nat := 4503599627370496 + fpw i % 4503599627370496
def pj (i : Nat) : Int := (fpw i / 4503599627370496 : Nat) - 1075
theorem fpw_all : ∀ i : Fin 23, double.read (fpw i.val) = .number false (pn i.val) (pj i.val) ∧ pn i.val * 2 ^ (pj i.val + 60).toNat = 10 ^ i.val * 2 ^ 60 ∧ -60 ≤ pj i.val ∧ pj i.val ≤ 30 := by decide +kernel
theorem fpw_read (i : Nat) (h : i < 23) : double.read (fpw i) = .number false (pn i) (pj i) ∧ pn i * 2 ^ (pj i + 60).toNat = 10 ^ i * 2 ^ 60 ∧ -60 ≤ pj i ∧ pj i ≤ 30 := fpw_all ⟨i, h⟩
theorem pn_range (i : Nat) : 4503599627370496 ≤ pn i ∧ pn i < 9007199254740992 := by unfold pn; omega

theorem T10_nat (p : Int) (h : -400 ≤ p) : ∀ i : Nat, T10 (p + i) = 10 ^ i * T10 p
  | 0 => by simp
  | i + 1 => by
    rw [show p + ((i + 1 : Nat) : Int) = (p + i) + 1 by omega, T10_succ _ (by omega), T10_nat p h i, Nat.pow_succ, ← Nat.mul_assoc, Nat.mul_comm 10]

/-- a product by 10^i on the one scale. -/
theorem scale_mul (m0 i : Nat) (q0 : Int) (hq : -1074 ≤ q0) (hi : i < 23) : m0 * pn i * E2 (q0 + pj i) = 10 ^ i * (m0 * E2 q0) := by
  obtain ⟨_, h, j1, j2⟩ := fpw_read i hi
  have e : E2 (q0 + pj i) * 2 ^ 60 = E2 q0 * 2 ^ (pj i + 60).toNat := by
    have a := E2_add (q0 + pj i) 60 (by omega)
    have b := E2_add q0 (pj i + 60).toNat (by omega)
    rw [show q0 + pj i + (60 : Nat) = q0 + ((pj i + 60).toNat : Int) by omega, b] at a
    rw [Nat.mul_comm _ (2 ^ 60), ← a, Nat.mul_comm]
  have key : m0 * pn i * E2 (q0 + pj i) * 2 ^ 60 = 10 ^ i * (m0 * E2 q0) * 2 ^ 60 := by
    calc m0 * pn i * E2 (q0 + pj i) * 2 ^ 60 = m0 * pn i * (E2 (q0 + pj i) * 2 ^ 60) := Nat.mul_assoc _ _ _
      _ = m0 * pn i * (E2 q0 * 2 ^ (pj i + 60).toNat) := by rw [e]
      _ = m0 * E2 q0 * (pn i * 2 ^ (pj i + 60).toNat) := by
        rw [Nat.mul_assoc m0, Nat.mul_assoc m0]; congr 1
        rw [Nat.mul_left_comm]
      _ = m0 * E2 q0 * (10 ^ i * 2 ^ 60) := by rw [h]
      _ = 10 ^ i * (m0 * E2 q0) * 2 ^ 60 := by rw [← Nat.mul_assoc, Nat.mul_comm (m0 * E2 q0)]
  exact Nat.eq_of_mul_eq_mul_right (Nat.two_pow_pos 60) key

theorem mul_right {mant : Nat} {q : Int} (hd : Dbl mant q) {m0 : Nat} {q0 : Int} (h0 : Dbl m0 q0) (neg : Bool) (i : Nat) (hi : i < 23) (h : InI mant q (10 ^ i * (m0 * E2 q0))) :
    double.mul (double.word neg (rung m0 q0)) (fpw i) = some (double.word neg (rung mant q)) := by
  obtain ⟨r, _, j1, j2⟩ := fpw_read i hi
  have lo := h0.lo
  unfold Format.mul
  rw [read_word h0 neg, r]
  show some (double.nearest (neg ^^ false) (m0 * pn i) (q0 + pj i)) = _
  rw [Bool.xor_false, nearest_right hd neg _ _ (by omega) (by rw [scale_mul m0 i q0 lo hi]; exact h)]

theorem lg (n : Nat) (h1 : 4503599627370496 ≤ n) (h2 : n < 9007199254740992) : n.log2 = 52 := by
  have h := log2_bounds n (by omega)
  have a : n.log2 ≤ 52 := by
    refine Decidable.byContradiction fun g => ?_
    have := Nat.pow_le_pow_right (show 0 < 2 by decide) (show 53 ≤ n.log2 by omega)
    omega
  have b : 52 ≤ n.log2 := by
    refine Decidable.byContradiction fun g => ?_
    have := Nat.pow_le_pow_right (show 0 < 2 by decide) (show n.log2 + 1 ≤ 52 by omega)
    omega
  omega

theorem quot_num (digits : Nat) (neg : Bool) (m n more : Nat) (i j : Int) (hn : n ≠ 0) (hm : digits + n.log2 - m.log2 = more) :
    Datum.quotient digits (.number neg m i) (.number false n j) = some (.number (neg ^^ false) (2 * ((m <<< more) / n) + ((m <<< more) % n != 0).toNat) (i - j - more - 1)) := by
  simp only [Datum.quotient]
  rw [if_neg hn, hm]

theorem div_right {mant : Nat} {q : Int} (hd : Dbl mant q) {m0 : Nat} {q0 : Int} (h0 : Dbl m0 q0) (hn : 4503599627370496 ≤ m0) (hq0 : -1000 ≤ q0) (neg : Bool) (i : Nat) (hi : i < 23) (X : Nat) (hX : 10 ^ i * X = m0 * E2 q0) (h : InI mant q X) :
    double.div (double.word neg (rung m0 q0)) (fpw i) = some (double.word neg (rung mant q)) := by
  obtain ⟨r, hv, j1, j2⟩ := fpw_read i hi
  obtain ⟨n1, n2⟩ := pn_range i
  have lt := h0.lt
  have hi0 := h0.hi
  unfold Format.div
  rw [read_word h0 neg, r]
  have hmore : (double.fractionBits + 2 + (pn i).log2 - m0.log2) = 54 := by
    rw [lg _ n1 n2, lg _ hn lt]; rfl
  rw [quot_num _ neg m0 (pn i) 54 q0 (pj i) (by omega) hmore]
  show some (double.nearest (neg ^^ false) _ _) = _
  rw [Bool.xor_false]
  obtain ⟨D, hD⟩ : ∃ D, m0 <<< 54 = D := ⟨_, rfl⟩
  have hD' : D = m0 * 18014398509481984 := by rw [← hD, Nat.shiftLeft_eq]
  rw [hD]
  obtain ⟨place, hpl⟩ : ∃ p : Int, q0 - pj i - (54 : Nat) - 1 = p := ⟨_, rfl⟩
  rw [hpl]
  have hXn : X * pn i = 2 * D * E2 place := by
    -- times 2^(pj + 60) on both sides
    have e1 : E2 q0 * 2 ^ 60 = E2 place * 2 ^ (pj i + 60).toNat * 2 ^ 55 := by
      have a := E2_add' place (q0 + 60) ((pj i + 60).toNat + 55) (by omega) (by omega)
      have b := E2_add q0 60 (by omega)
      rw [show q0 + ((60 : Nat) : Int) = q0 + 60 by omega] at b
      rw [Nat.mul_comm (E2 q0), ← b, a, Nat.pow_add, Nat.mul_comm]
      rw [Nat.mul_assoc]
    have key : X * pn i * 2 ^ (pj i + 60).toNat = 2 * D * E2 place * 2 ^ (pj i + 60).toNat := by
      calc X * pn i * 2 ^ (pj i + 60).toNat = X * (pn i * 2 ^ (pj i + 60).toNat) := Nat.mul_assoc _ _ _
        _ = X * (10 ^ i * 2 ^ 60) := by rw [hv]
        _ = 10 ^ i * X * 2 ^ 60 := by rw [← Nat.mul_assoc, Nat.mul_comm X]
        _ = m0 * E2 q0 * 2 ^ 60 := by rw [hX]
        _ = m0 * (E2 q0 * 2 ^ 60) := Nat.mul_assoc _ _ _
        _ = m0 * (E2 place * 2 ^ (pj i + 60).toNat * 2 ^ 55) := by rw [e1]
        _ = 2 * D * E2 place * 2 ^ (pj i + 60).toNat := by
          rw [hD', show (2 : Nat) ^ 55 = 36028797018963968 by rfl, show 2 * (m0 * 18014398509481984) = m0 * 36028797018963968 by omega]
          rw [← Nat.mul_assoc, ← Nat.mul_assoc, Nat.mul_right_comm m0 36028797018963968, Nat.mul_right_comm _ 36028797018963968]
    exact Nat.eq_of_mul_eq_mul_right (Nat.two_pow_pos _) key
  have hpn : 0 < pn i := by omega
  generalize hU : E2 place = U at *
  have hUp : 0 < U := by rw [← hU]; exact E2_pos _
  generalize pn i = n at *
  have dm := Nat.div_add_mod D n
  have dl := Nat.mod_lt D hpn
  obtain ⟨st, hst⟩ : ∃ st, (D % n != 0).toNat = st := ⟨_, rfl⟩
  have hst1 : (st = 0 ∧ D % n = 0) ∨ (st = 1 ∧ D % n ≠ 0) := by
    rw [← hst]
    by_cases g : D % n = 0
    · left; simp [g]
    · right; simp [g]
  rw [hst]
  have hDn : 9007199254740992 ≤ D / n := by
    rw [Nat.le_div_iff_mul_le hpn, hD']
    have a : 9007199254740992 * n ≤ 9007199254740992 * 9007199254740992 := Nat.mul_le_mul_left _ (by omega)
    have b : 4503599627370496 * 18014398509481984 ≤ m0 * 18014398509481984 := Nat.mul_le_mul_right _ hn
    exact Nat.le_trans a (Nat.le_trans (by decide) b)
  have hUnr : Unr (2 * (D / n) + st) X U := by
    intro K hK
    obtain ⟨k, rfl⟩ : ∃ k, K = 2 * k := ⟨K / 2, by omega⟩
    -- D against k * n
    have cmp : ∀ a b : Nat, a < b → a * n + n ≤ b * n := fun a b hab => by
      have := Nat.mul_le_mul_right n (show a + 1 ≤ b from hab)
      rwa [Nat.add_mul, Nat.one_mul] at this
    have dm' : D / n * n + D % n = D := by rw [Nat.mul_comm]; exact dm
    have lt_iff : ∀ a b : Nat, a * n < b * n → a < b := fun a b hab => Nat.lt_of_mul_lt_mul_right hab
    have hXn2 : X * n = D * (2 * U) := by rw [hXn, Nat.mul_comm 2 D, Nat.mul_assoc]
    have hk : ∀ t : Nat, 2 * t * U * n = t * n * (2 * U) := fun t => by
      rw [Nat.mul_comm 2 t, Nat.mul_assoc t, Nat.mul_assoc t, Nat.mul_assoc t, Nat.mul_comm (2 * U) n]
    have h2U : 0 < 2 * U := by omega
    refine ⟨fun g => ?_, fun g => ?_, fun g => ?_⟩
    · have : D < k * n := by
        have := cmp (D / n) k (by omega)
        omega
      have := Nat.mul_lt_mul_of_pos_right this h2U
      rw [← hXn2, ← hk] at this
      exact lt_iff _ _ this
    · have : k * n < D := by
        rcases Nat.lt_or_ge k (D / n) with c | c
        · have := cmp k (D / n) c; omega
        · have : k = D / n := by omega
          subst this
          omega
      have := Nat.mul_lt_mul_of_pos_right this h2U
      rw [← hXn2, ← hk] at this
      exact lt_iff _ _ this
    · have : D = k * n := by
        have c : k = D / n := by omega
        rw [c]; omega
      rw [this, ← hk] at hXn2
      exact Nat.eq_of_mul_eq_mul_right hpn hXn2
  have := quot_in hd X (2 * (D / n) + st) place (by omega) (by omega) (by rw [hU]; exact hUnr) h
  exact congrArg some (nearest_right hd neg _ _ (by omega) this)
end YtpefdgaijeefoaaDoor
end Go.Proofs

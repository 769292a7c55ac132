/-
  WRITING A DOUBLE SHORTEST: the code's shortFloat gives a decimal of at most 17 digits in the double's rounding interval. No condition.
  By an AI agent. No person has read it.
-/
import Derived.Test.YtpefdgaijeefoaaDoorM5
namespace Go.Proofs
namespace YtpefdgaijeefoaaDoor
open Go.Lib

theorem T10_mul (p : Int) (h1 : -400 ≤ p) (h2 : p ≤ 400) : T10 p * T10 (-p) = 10 ^ c400 * 10 ^ c400 * (2 ^ c1300 * 2 ^ c1300) := by
  unfold T10
  have h4 := c400_eq
  have : (10 : Nat) ^ (p + 400).toNat * 10 ^ (-p + 400).toNat = 10 ^ c400 * 10 ^ c400 := by
    rw [← Nat.pow_add, ← Nat.pow_add]; congr 1; omega
  rw [← this]
  simp only [Nat.mul_assoc, Nat.mul_comm, Nat.mul_left_comm]
theorem E2_mul (x y w v : Int) (h1 : -1300 ≤ x) (h2 : -1300 ≤ y) (h3 : -1300 ≤ w) (h4 : -1300 ≤ v) (h : x + y = v + w) : E2 x * E2 y = E2 v * E2 w := by
  unfold E2
  have : (2 : Nat) ^ (x + 1300).toNat * 2 ^ (y + 1300).toNat = 2 ^ (v + 1300).toNat * 2 ^ (w + 1300).toNat := by
    rw [← Nat.pow_add, ← Nat.pow_add]; congr 1; omega
  have e : ∀ a b c : Nat, a * c * (b * c) = a * b * (c * c) := fun a b c => by simp only [Nat.mul_assoc, Nat.mul_left_comm]
  rw [e, e, this]
theorem E2_inv (a : Int) (h1 : -1300 ≤ a) (h2 : a ≤ 1300) : E2 a * E2 (-a) = 10 ^ c400 * 10 ^ c400 * (2 ^ c1300 * 2 ^ c1300) := by
  unfold E2
  have h4 := c1300_eq
  have : (2 : Nat) ^ (a + 1300).toNat * 2 ^ (-a + 1300).toNat = 2 ^ c1300 * 2 ^ c1300 := by
    rw [← Nat.pow_add, ← Nat.pow_add]; congr 1; omega
  rw [← this]
  simp only [Nat.mul_assoc, Nat.mul_comm, Nat.mul_left_comm]
theorem T10_succ (p : Int) (h : -400 ≤ p) : T10 (p + 1) = 10 * T10 p := by
  unfold T10
  rw [show (p + 1 + 400).toNat = (p + 400).toNat + 1 by omega, Nat.pow_succ]
  simp only [Nat.mul_comm, Nat.mul_left_comm]

/-- uscale in shortFloat, as values: 4 * a * 2^(q-1) against K * 10^-p. -/
theorem sf_near (a z : Nat) (q p : Int) (K : Nat) (hz : 11 ≤ z) (hz2 : z ≤ 63) (ha : 2 ^ (63 - z) ≤ a) (ha2 : a + 1 ≤ 2 ^ (65 - z)) (hq : -1074 ≤ q) (hq2 : q ≤ 971)
    (hp : -333 ≤ p) (hp2 : p ≤ 328) (hs : 0 ≤ -(q - z + lpw p + 3)) (hK : K % 2 = 0) :
    (usp (a * 2 ^ (z - 1)) (q - z) p < K → 4 * (a * E2 (q - 1)) < K * T10 (-p)) ∧ (K < usp (a * 2 ^ (z - 1)) (q - z) p → K * T10 (-p) < 4 * (a * E2 (q - 1)))
    ∧ (usp (a * 2 ^ (z - 1)) (q - z) p = K → K * T10 (-p) < 4 * (a * E2 (q - 1)) + 4 * E2 (q - 61 - z) ∧ 4 * (a * E2 (q - 1)) < K * T10 (-p) + 4 * E2 (q - 61 - z)) := by
  have hx : a * 2 ^ (z - 1) < 18446744073709551616 := by
    have := Nat.mul_le_mul_right (2 ^ (z - 1)) ha2
    rw [← Nat.pow_add, show 65 - z + (z - 1) = 64 by omega, Nat.add_mul, Nat.one_mul] at this
    have := Nat.two_pow_pos (z - 1)
    omega
  have hx2 : 4 ≤ a * 2 ^ (z - 1) := by
    have := Nat.mul_le_mul_right (2 ^ (z - 1)) ha
    rw [← Nat.pow_add, show 63 - z + (z - 1) = 62 by omega] at this
    omega
  have main := us_real (a * 2 ^ (z - 1)) (q - z) p K (by omega) (by omega) hs hx hx2 hK
  have hl := lpw_bounds p (by omega) (by omega)
  have hl' := lpw_bounds (-p) (by omega) (by omega)
  have hll : lpw p + lpw (-p) ≤ 0 ∧ -1 ≤ lpw p + lpw (-p) := by unfold lpw; omega
  generalize usp (a * 2 ^ (z - 1)) (q - z) p = u at *
  have c1 := E2_add' (-q - 1) (-(q - (z : Int)) - 2) (z - 1) (by omega) (by omega)
  have c2 := E2_add' (lpw p - 61 - z) (lpw p - 62) (z - 1) (by omega) (by omega)
  rw [c1, c2] at main
  have hG : 0 < 2 ^ (z - 1) := Nat.two_pow_pos _
  have e1 : a * 2 ^ (z - 1) * T10 p = 2 ^ (z - 1) * (a * T10 p) := by simp only [Nat.mul_assoc, Nat.mul_left_comm]
  have e2 : K * (2 ^ (z - 1) * E2 (-q - 1)) = 2 ^ (z - 1) * (K * E2 (-q - 1)) := by rw [Nat.mul_left_comm]
  rw [e1, e2, ← Nat.mul_add, ← Nat.mul_add] at main
  -- times 10^-p, over 2^-q-1
  have i1 : T10 p * T10 (-p) = 4 * E2 (q - 1) * E2 (-q - 1) := by
    rw [T10_mul p (by omega) (by omega), ← E2_inv (q + 1) (by omega) (by omega), show -(q + 1) = -q - 1 by omega, E2_add' (q - 1) (q + 1) 2 (by omega) (by omega)]
  have i2 : E2 (lpw p - 61 - z) * T10 (-p) ≤ 4 * E2 (q - 61 - z) * E2 (-q - 1) := by
    have t := (T10_bounds (-p) (by omega) (by omega)).2
    have t2 : T10 (-p) ≤ E2 (lpw (-p) + 1) := by omega
    refine Nat.le_trans (Nat.mul_le_mul_left _ t2) ?_
    rw [E2_mul (lpw p - 61 - z) (lpw (-p) + 1) (-q - 1) (lpw p + lpw (-p) + q - 59 - z) (by omega) (by omega) (by omega) (by omega) (by omega)]
    refine Nat.mul_le_mul_right _ ?_
    rw [← show E2 (q - 59 - z) = 4 * E2 (q - 61 - z) from E2_add' (q - 61 - z) (q - 59 - z) 2 (by omega) (by omega)]
    exact E2_mono _ _ (by omega)
  have hF := E2_pos (-q - 1)
  have hT := T10_pos (-p)
  have k1 : a * T10 p * T10 (-p) = 4 * (a * E2 (q - 1)) * E2 (-q - 1) := by
    rw [Nat.mul_assoc, i1]; simp only [Nat.mul_assoc, Nat.mul_left_comm]
  have k2 : K * E2 (-q - 1) * T10 (-p) = K * T10 (-p) * E2 (-q - 1) := Nat.mul_right_comm _ _ _
  generalize E2 (-q - 1) = F at *
  generalize T10 (-p) = T' at *
  generalize T10 p = Tp at *
  generalize E2 (lpw p - 61 - z) = ε at *
  refine ⟨fun h => ?_, fun h => ?_, fun h => ⟨?_, ?_⟩⟩
  · have g := Nat.mul_lt_mul_of_pos_right (Nat.lt_of_mul_lt_mul_left (main.1 h)) hT
    rw [k1, k2] at g
    exact Nat.lt_of_mul_lt_mul_right g
  · have g := Nat.mul_lt_mul_of_pos_right (Nat.lt_of_mul_lt_mul_left (main.2.1 h)) hT
    rw [k1, k2] at g
    exact Nat.lt_of_mul_lt_mul_right g
  · have g := Nat.mul_lt_mul_of_pos_right (Nat.lt_of_mul_lt_mul_left (main.2.2 h).1) hT
    rw [Nat.add_mul, k1, k2] at g
    refine Nat.lt_of_mul_lt_mul_right (a := F) ?_
    rw [Nat.add_mul]; omega
  · have g := Nat.mul_lt_mul_of_pos_right (Nat.lt_of_mul_lt_mul_left (main.2.2 h).2) hT
    rw [Nat.add_mul, k1, k2] at g
    refine Nat.lt_of_mul_lt_mul_right (a := F) ?_
    rw [Nat.add_mul]; omega

/-- at whole numbers exactly. -/
theorem sf_exact (a z : Nat) (q p : Int) (d : Nat) (hz : 11 ≤ z) (hz2 : z ≤ 63) (ha : 2 ^ (63 - z) ≤ a) (ha2 : a + 1 ≤ 2 ^ (65 - z)) (hq : -1074 ≤ q) (hq2 : q ≤ 971)
    (hp : -332 ≤ p) (hp2 : p ≤ 328) (hs : 0 ≤ -(q - z + lpw p + 3)) (h0 : 0 < d) (hd : d < 144115188075855872)
    (h : usp (a * 2 ^ (z - 1)) (q - z) p = 4 * d) : a * E2 (q - 1) = d * T10 (-p) := by
  obtain ⟨n1, n2⟩ := (sf_near a z q p (4 * d) hz hz2 ha ha2 hq hq2 (by omega) hp2 hs (by omega)).2.2 h
  obtain ⟨b1, b2, b3, b4⟩ := bl_bounds d h0 (by omega)
  have b57 : bitLen d ≤ 57 := bitLen_le d 57 (by omega) hd
  have hl := lpw_bounds (-p) (by omega) (by omega)
  obtain ⟨t1, t2⟩ := T10_bounds (-p) (by omega) (by omega)
  generalize hb : bitLen d = b at *
  have v1 : E2 (lpw (-p) + ((b - 1 : Nat) : Int)) ≤ d * T10 (-p) := by
    rw [E2_add (lpw (-p)) (b - 1) (by omega)]
    exact Nat.mul_le_mul b3 t1
  have v2 : 1024 * (d * T10 (-p)) ≤ 1023 * E2 (lpw (-p) + 1 + (b : Nat)) := by
    rw [E2_add (lpw (-p) + 1) b (by omega)]
    have := Nat.mul_le_mul (Nat.le_of_lt b4) t2
    rw [show 1024 * (d * T10 (-p)) = d * (1024 * T10 (-p)) by rw [Nat.mul_left_comm]]
    rw [show 1023 * (2 ^ b * E2 (lpw (-p) + 1)) = 2 ^ b * (1023 * E2 (lpw (-p) + 1)) by rw [Nat.mul_left_comm]]
    exact this
  have v3 : E2 (q + 62 - z) ≤ a * E2 (q - 1) := by
    rw [E2_add' (q - 1) (q + 62 - z) (63 - z) (by omega) (by omega)]
    exact Nat.mul_le_mul_right _ ha
  have v4 : a * E2 (q - 1) + E2 (q - 1) ≤ E2 (q + 64 - z) := by
    rw [E2_add' (q - 1) (q + 64 - z) (65 - z) (by omega) (by omega)]
    have := Nat.mul_le_mul_right (E2 (q - 1)) ha2
    rw [Nat.add_mul, Nat.one_mul] at this
    exact this
  have v5 := E2_lt (q - 61 - z) (q + 62 - z) (by omega) (by omega)
  have v6 := E2_lt (q - 61 - z) (q - 1) (by omega) (by omega)
  have c1 : lpw (-p) + b - 1 < q + 64 - z := by
    refine Decidable.byContradiction fun hn => ?_
    have := E2_mono (q + 64 - z) (lpw (-p) + ((b - 1 : Nat) : Int)) (by omega)
    rw [Nat.mul_assoc] at n1 n2
    omega
  have c2 : q + 62 - z ≤ lpw (-p) + b + 2 := by
    refine Decidable.byContradiction fun hn => ?_
    have m1 := E2_mono (lpw (-p) + 3 + (b : Nat)) (q + 62 - z) (by omega)
    have m2 := E2_add' (lpw (-p) + 1 + (b : Nat)) (lpw (-p) + 3 + (b : Nat)) 2 (by omega) (by omega)
    rw [Nat.mul_assoc] at n1 n2
    have := E2_pos (q + 62 - z)
    omega
  have gp := gap_real (-p) (d * 2 ^ (57 - b)) (a * 2 ^ (q + 53 - b - lpw (-p)).toNat) (by omega) (by omega) (Nat.mul_pos h0 (Nat.two_pow_pos _)) (by
    have := Nat.mul_lt_mul_of_pos_right b4 (Nat.two_pow_pos (57 - b))
    rw [← Nat.pow_add, show b + (57 - b) = 57 by omega] at this
    exact this)
  have f1 := E2_add' (lpw (-p) + 3) (q + 56 - b) (q + 53 - b - lpw (-p)).toNat (by omega) (by omega)
  have f2 := E2_add' (q - 1) (q + 56 - b) (57 - b) (by omega) (by omega)
  have f4 : a * 2 ^ (q + 53 - b - lpw (-p)).toNat * E2 (lpw (-p) + 3) = 2 ^ (57 - b) * (a * E2 (q - 1)) := by
    rw [Nat.mul_assoc, ← f1, f2, Nat.mul_left_comm]
  have f5 : d * 2 ^ (57 - b) * T10 (-p) = 2 ^ (57 - b) * (d * T10 (-p)) := by simp only [Nat.mul_assoc, Nat.mul_left_comm]
  have f6 : 2 ^ (57 - b) * E2 (q - 61 - z) ≤ E2 (lpw (-p) - 64) := by
    rw [← E2_add' (q - 61 - z) (q - 61 - z + (57 - b : Nat)) (57 - b) (by omega) (by omega)]
    exact E2_mono _ _ (by omega)
  rw [f4, f5] at gp
  rw [Nat.mul_assoc] at n1 n2
  have hQ : 0 < 2 ^ (57 - b) := Nat.two_pow_pos _
  have n1' := Nat.mul_lt_mul_of_pos_left (show d * T10 (-p) < a * E2 (q - 1) + E2 (q - 61 - z) by omega) hQ
  have n2' := Nat.mul_lt_mul_of_pos_left (show a * E2 (q - 1) < d * T10 (-p) + E2 (q - 61 - z) by omega) hQ
  rw [Nat.mul_add] at n1' n2'
  refine Nat.eq_of_mul_eq_mul_left hQ ?_
  omega
theorem T10_zero : T10 0 = E2 0 := by
  unfold T10 E2
  have h4 := c400_eq
  have h13 := c1300_eq
  rw [show ((0 : Int) + 400).toNat = c400 by omega, show ((0 : Int) + 1300).toNat = c1300 by omega, Nat.mul_comm]

/-- the shift lies within the word, at every exponent. -/
def okSh (q : Int) : Bool := decide (-3 ≤ -q - lpw (-(q * 78913 / 262144))) && decide (-q - lpw (-(q * 78913 / 262144)) ≤ 0)
  && decide (-3 ≤ -q - lpw (-((q * 631305 - 261663) / 2097152))) && decide (-q - lpw (-((q * 631305 - 261663) / 2097152)) ≤ 0)
set_option maxRecDepth 100000 in
theorem sh_a : allQ okSh 1023 (-1074) = true := by kernel_rfl
set_option maxRecDepth 100000 in
theorem sh_b : allQ okSh 1023 (-51) = true := by kernel_rfl
theorem sh_all (mant : Nat) (q : Int) (h1 : -1074 ≤ q) (h2 : q ≤ 971) : -3 ≤ -q - lpw (sp mant q) ∧ -q - lpw (sp mant q) ≤ 0 := by
  have : okSh q = true := by
    by_cases a : q < -51
    · exact allQ_at _ _ _ q sh_a (by omega) (by omega)
    · exact allQ_at _ _ _ q sh_b (by omega) (by omega)
  simp only [okSh, Bool.and_eq_true, decide_eq_true_eq] at this
  unfold sp
  split
  · exact ⟨this.1.2, this.2⟩
  · exact ⟨this.1.1.1, this.1.1.2⟩
theorem sp_range (mant : Nat) (q : Int) (h1 : -1074 ≤ q) (h2 : q ≤ 971) : -293 ≤ sp mant q ∧ sp mant q ≤ 324 := by
  unfold sp; split <;> omega

theorem mant_bits {mant : Nat} {q : Int} (hd : Dbl mant q) : 1 ≤ bitLen mant ∧ bitLen mant ≤ 53 ∧ 2 ^ (bitLen mant - 1) ≤ mant ∧ mant < 2 ^ bitLen mant := by
  have hlt := hd.lt
  obtain ⟨b1, _, b3, b4⟩ := bl_bounds mant hd.pos (by omega)
  exact ⟨b1, bitLen_le mant 53 (by omega) hlt, b3, b4⟩

/-- what a result of shortFloat is good for. -/
def Good (mant : Nat) (q : Int) (r : Nat × Int) : Prop := 0 < r.1 ∧ r.1 < 100000000000000000 ∧ -324 ≤ r.2 ∧ r.2 ≤ 300 ∧ InI mant q (r.1 * T10 r.2)

/-- the choice among decimals, in bare numbers: A is half a unit in the last place, T a unit of the decimal, e the error of a near miss. -/
theorem sf_abs (mant A T e umin umax umid : Nat) (hA : 0 < A) (he : 1180591620717411303424 * e ≤ A) (hT : 0 < T) (u1 : T ≤ 2 * A) (u2 : 2 * A < 10 * T)
    (hpos : 0 < mant) (hlt : mant < 9007199254740992) (u3 : T = 2 * A ∨ 1099511627777 * T ≤ 1099511627776 * (2 * A))
    (nlo : ∀ K, K % 2 = 0 → (umin < K → 4 * ((2 * mant - 1) * A) < K * T) ∧ (K < umin → K * T < 4 * ((2 * mant - 1) * A)) ∧ (umin = K → K * T < 4 * ((2 * mant - 1) * A) + 4 * e ∧ 4 * ((2 * mant - 1) * A) < K * T + 4 * e))
    (nhi : ∀ K, K % 2 = 0 → (umax < K → 4 * ((2 * mant + 1) * A) < K * T) ∧ (K < umax → K * T < 4 * ((2 * mant + 1) * A)) ∧ (umax = K → K * T < 4 * ((2 * mant + 1) * A) + 4 * e ∧ 4 * ((2 * mant + 1) * A) < K * T + 4 * e))
    (nmi : ∀ K, K % 2 = 0 → (umid < K → 4 * (2 * mant * A) < K * T) ∧ (K < umid → K * T < 4 * (2 * mant * A)) ∧ (umid = K → K * T < 4 * (2 * mant * A) + 4 * e ∧ 4 * (2 * mant * A) < K * T + 4 * e))
    (xlo : ∀ d, 0 < d → d < 144115188075855872 → umin = 4 * d → (2 * mant - 1) * A = d * T)
    (xhi : ∀ d, 0 < d → d < 144115188075855872 → umax = 4 * d → (2 * mant + 1) * A = d * T) :
    ∃ D, 0 < D ∧ D < 100000000000000000 ∧ (2 * mant - 1) * A + mant % 2 ≤ D * T ∧ D * T + mant % 2 ≤ (2 * mant + 1) * A
      ∧ (((umin + mant % 2 + 3) / 4 ≤ (umax - mant % 2) / 4 / 10 * 10 ∧ D = (umax - mant % 2) / 4 / 10 * 10)
        ∨ (¬ (umin + mant % 2 + 3) / 4 ≤ (umax - mant % 2) / 4 / 10 * 10 ∧ (umin + mant % 2 + 3) / 4 < (umax - mant % 2) / 4 ∧ D = rnd umid)
        ∨ (¬ (umin + mant % 2 + 3) / 4 ≤ (umax - mant % 2) / 4 / 10 * 10 ∧ ¬ (umin + mant % 2 + 3) / 4 < (umax - mant % 2) / 4 ∧ D = (umin + mant % 2 + 3) / 4)) := by
  have q1 : (2 * mant - 1) * A + A = 2 * mant * A := by
    rw [← Nat.succ_mul]; congr 1; omega
  have q2 : 2 * mant * A + A = (2 * mant + 1) * A := (Nat.succ_mul _ _).symm
  have q3 : (2 * mant + 1) * A ≤ 18014398509481984 * A := Nat.mul_le_mul_right A (by omega)
  have q4 : A ≤ (2 * mant - 1) * A := Nat.le_mul_of_pos_left A (by omega)
  have q5 : 2 * mant * A = mant * (2 * A) := by rw [Nat.mul_comm 2 mant, Nat.mul_assoc]
  generalize hlo : (2 * mant - 1) * A = lo at *
  generalize hhi : (2 * mant + 1) * A = hi at *
  generalize hmi : 2 * mant * A = mi at *
  have asc : ∀ D, 4 * D * T = 4 * (D * T) := fun D => Nat.mul_assoc 4 D T
  -- of whole numbers, exactly
  have cmin : ∀ D, 0 < D → D < 144115188075855872 → (umin < 4 * D ∧ lo < D * T) ∨ (umin = 4 * D ∧ lo = D * T) ∨ (4 * D < umin ∧ D * T < lo) := by
    intro D h1 h2
    obtain ⟨a, b, _⟩ := nlo (4 * D) (by omega)
    have c := xlo D h1 h2
    rw [asc] at a b
    rcases Nat.lt_trichotomy umin (4 * D) with r | r | r
    · exact Or.inl ⟨r, by have := a r; omega⟩
    · exact Or.inr (Or.inl ⟨r, c r⟩)
    · exact Or.inr (Or.inr ⟨r, by have := b r; omega⟩)
  have cmax : ∀ D, 0 < D → D < 144115188075855872 → (umax < 4 * D ∧ hi < D * T) ∨ (umax = 4 * D ∧ hi = D * T) ∨ (4 * D < umax ∧ D * T < hi) := by
    intro D h1 h2
    obtain ⟨a, b, _⟩ := nhi (4 * D) (by omega)
    have c := xhi D h1 h2
    rw [asc] at a b
    rcases Nat.lt_trichotomy umax (4 * D) with r | r | r
    · exact Or.inl ⟨r, by have := a r; omega⟩
    · exact Or.inr (Or.inl ⟨r, c r⟩)
    · exact Or.inr (Or.inr ⟨r, by have := b r; omega⟩)
  have size : ∀ D, D * T ≤ hi → D < 100000000000000000 := by
    intro D h
    refine Decidable.byContradiction fun n => ?_
    have := Nat.mul_le_mul_right T (show 100000000000000000 ≤ D by omega)
    omega
  have hmax : umax < 576460752303423488 := by
    refine Decidable.byContradiction fun n => ?_
    obtain ⟨_, b, c⟩ := nhi 576460752303423488 (by decide)
    rcases Nat.lt_or_eq_of_le (show 576460752303423488 ≤ umax by omega) with r | r
    · have := b r; omega
    · have := (c r.symm).1; omega
  have hmin0 : 0 < umin := by
    rcases Nat.eq_zero_or_pos umin with r | r
    · have := ((nlo 0 rfl).2.2 r).2; omega
    · exact r
  -- a whole number strictly inside
  obtain ⟨D, hD1, hD2⟩ : ∃ D, lo < D * T ∧ D * T < hi := by
    rcases u3 with r | r
    · refine ⟨mant, ?_, ?_⟩ <;> (rw [r, ← q5]; omega)
    · have dm := Nat.div_add_mod (2 * mi + T) (2 * T)
      have dl := Nat.mod_lt (2 * mi + T) (show 0 < 2 * T by omega)
      rw [Nat.mul_assoc, Nat.mul_comm T] at dm
      refine ⟨(2 * mi + T) / (2 * T), ?_, ?_⟩ <;> omega
  have hD0 : 0 < D := by
    rcases Nat.eq_zero_or_pos D with r | r
    · subst r; rw [Nat.zero_mul] at hD1; omega
    · exact r
  have hDs := size D (by omega)
  have d1 : umin < 4 * D := by rcases cmin D hD0 (by omega) with r | r | r <;> omega
  have d2 : 4 * D < umax := by rcases cmax D hD0 (by omega) with r | r | r <;> omega
  have odd : mant % 2 ≤ 1 := by omega
  -- what lies between the two bounds is good
  have inside : ∀ F, (umin + mant % 2 + 3) / 4 ≤ F → F ≤ (umax - mant % 2) / 4 → 0 < F ∧ F < 100000000000000000 ∧ lo + mant % 2 ≤ F * T ∧ F * T + mant % 2 ≤ hi := by
    intro F h1 h2
    have f0 : 0 < F := by omega
    have f1 := cmin F f0 (by omega)
    have f2 := cmax F f0 (by omega)
    have f3 : lo + mant % 2 ≤ F * T := by omega
    have f4 : F * T + mant % 2 ≤ hi := by omega
    exact ⟨f0, size F (by omega), f3, f4⟩
  by_cases c1 : (umin + mant % 2 + 3) / 4 ≤ (umax - mant % 2) / 4 / 10 * 10
  · obtain ⟨a, b, c, d⟩ := inside ((umax - mant % 2) / 4 / 10 * 10) c1 (by omega)
    exact ⟨_, a, b, c, d, Or.inl ⟨c1, rfl⟩⟩
  · by_cases c2 : (umin + mant % 2 + 3) / 4 < (umax - mant % 2) / 4
    · refine ⟨rnd umid, ?_⟩
      have r1 : rnd umid * 4 ≤ umid + 2 ∧ umid ≤ rnd umid * 4 + 2 := by unfold rnd; omega
      generalize hF : rnd umid = F at *
      have main : lo < F * T ∧ F * T < hi := by
        rcases u3 with r | r
        · obtain ⟨a, b, _⟩ := nmi (4 * mant) (by omega)
          rw [asc, r, ← q5] at a b
          have : umid = 4 * mant := by
            rcases Nat.lt_trichotomy umid (4 * mant) with t | t | t
            · have := a t; omega
            · exact t
            · have := b t; omega
          have hFm : F = mant := by unfold rnd at hF; omega
          rw [hFm, r, ← q5]; omega
        · obtain ⟨a, _, a3⟩ := nmi (4 * F + 2) (by omega)
          have ka : (4 * F + 2) * T = 4 * (F * T) + 2 * T := by rw [Nat.add_mul, asc]
          rw [ka] at a a3
          constructor
          · rcases Nat.lt_or_eq_of_le (show umid ≤ 4 * F + 2 by omega) with t | t
            · have := a t; omega
            · have := (a3 t).2; omega
          · rcases Nat.eq_zero_or_pos F with t | t
            · subst t; rw [Nat.zero_mul]; omega
            · obtain ⟨_, b, b3⟩ := nmi (4 * F - 2) (by omega)
              have kb : (4 * F - 2) * T + 2 * T = 4 * (F * T) := by rw [← Nat.add_mul, ← asc]; congr 1; omega
              rcases Nat.lt_or_eq_of_le (show 4 * F - 2 ≤ umid by omega) with t' | t'
              · have := b t'; omega
              · have := (b3 t'.symm).1; omega
      have f0 : 0 < F := by
        rcases Nat.eq_zero_or_pos F with r | r
        · subst r; rw [Nat.zero_mul] at main; omega
        · exact r
      exact ⟨f0, size F (by omega), by omega, by omega, Or.inr (Or.inl ⟨c1, c2, rfl⟩)⟩
    · obtain ⟨a, b, c, d⟩ := inside ((umin + mant % 2 + 3) / 4) (Nat.le_refl _) (by omega)
      exact ⟨_, a, b, c, d, Or.inr (Or.inr ⟨c1, c2, rfl⟩)⟩

theorem sf_reg {mant : Nat} {q : Int} (hd : Dbl mant q) (hr : ¬ (mant = 4503599627370496 ∧ q ≠ -1074)) (z : Nat) (hz : z = 64 - bitLen mant) : Good mant q (sfd mant q z) := by
  obtain ⟨m1, m2, m3, m4⟩ := mant_bits hd
  have hq := hd.lo
  have hq2 := hd.hi
  have hpos := hd.pos
  have hlt := hd.lt
  have hsp : sp mant q = -(q * 78913 / 262144) := by unfold sp; rw [if_neg hr]
  obtain ⟨s1, s2⟩ := sh_all mant q hq hq2
  obtain ⟨p1, p2⟩ := sp_range mant q hq hq2
  obtain ⟨u1, u2, u3⟩ := ulp_all q hq hq2
  have hT := T10_pos (q * 78913 / 262144)
  have ez : 2 ^ z = 2 * 2 ^ (z - 1) := by
    rw [Nat.mul_comm, ← Nat.pow_succ]; congr 1; omega
  have e1 : smin mant q z = (2 * mant - 1) * 2 ^ (z - 1) := by
    unfold smin
    rw [if_neg hr, Nat.sub_mul, Nat.one_mul, Nat.mul_comm 2 mant, Nat.mul_assoc, ← ez]
  have e2 : smax mant z = (2 * mant + 1) * 2 ^ (z - 1) := by
    unfold smax
    rw [Nat.add_mul, Nat.one_mul, Nat.mul_comm 2 mant, Nat.mul_assoc, ← ez]
  have e3 : mant * 2 ^ z = (2 * mant) * 2 ^ (z - 1) := by
    rw [Nat.mul_comm 2 mant, Nat.mul_assoc, ← ez]
  have w1 : 2 ^ (64 - z) = 2 * 2 ^ (63 - z) := by rw [show 64 - z = 63 - z + 1 by omega, Nat.pow_succ, Nat.mul_comm]
  have w2 : 2 ^ (65 - z) = 4 * 2 ^ (63 - z) := by rw [show 65 - z = 63 - z + 2 by omega, Nat.pow_add, Nat.mul_comm]
  have w3 : 2 ^ (63 - z) ≤ mant := by rw [show 63 - z = bitLen mant - 1 by omega]; exact m3
  have w4 : mant < 2 ^ (64 - z) := by rw [show 64 - z = bitLen mant by omega]; exact m4
  have w5 := Nat.two_pow_pos (63 - z)
  have near := fun (a K : Nat) (h1 : 2 ^ (63 - z) ≤ a) (h2 : a + 1 ≤ 2 ^ (65 - z)) (hK : K % 2 = 0) => sf_near a z q (sp mant q) K (by omega) (by omega) h1 h2 hq hq2 (by omega) (by omega) (by omega) hK
  have exact' := fun (a d : Nat) (h1 : 2 ^ (63 - z) ≤ a) (h2 : a + 1 ≤ 2 ^ (65 - z)) (h3 : 0 < d) (h4 : d < 144115188075855872) => sf_exact a z q (sp mant q) d (by omega) (by omega) h1 h2 hq hq2 (by omega) (by omega) (by omega) h3 h4
  have hmp : -(sp mant q) = q * 78913 / 262144 := by omega
  have hmp1 : -(sp mant q - 1) = q * 78913 / 262144 + 1 := by omega
  have hr0 : -324 ≤ q * 78913 / 262144 ∧ q * 78913 / 262144 ≤ 293 := by omega
  simp only [hmp] at near exact'
  have hA := E2_add' (q - 1) q 1 (by omega) (by omega)
  have hA0 := E2_add' (q - 2) (q - 1) 1 (by omega) (by omega)
  have hε := E2_add' (q - 61 - z) (q - 1) (60 + z) (by omega) (by omega)
  have hε' : 1180591620717411303424 * E2 (q - 61 - z) ≤ E2 (q - 1) := by
    rw [hε]
    refine Nat.mul_le_mul_right _ ?_
    have := Nat.pow_le_pow_right (show 0 < 2 by decide) (show 70 ≤ 60 + z by omega)
    exact this
  have hAp := E2_pos (q - 1)
  have hεp := E2_pos (q - 61 - z)
  have hq0 : q = 0 → T10 (q * 78913 / 262144) = 2 * E2 (q - 1) := by
    intro h
    have e : q * 78913 / 262144 = 0 := by omega
    have e' : E2 0 = E2 q := by rw [h]
    rw [e, T10_zero, e']
    omega
  have hInI : ∀ D : Nat, (2 * mant - 1) * E2 (q - 1) + mant % 2 ≤ D → D + mant % 2 ≤ (2 * mant + 1) * E2 (q - 1) → InI mant q D := by
    intro D h1 h2
    unfold InI lowq
    rw [if_neg hr]
    rw [hA0] at h1 h2
    have k1 : (2 * mant - 1) * (2 ^ 1 * E2 (q - 2)) = (4 * mant - 2) * E2 (q - 2) := by rw [← Nat.mul_assoc]; congr 1; omega
    have k2 : (2 * mant + 1) * (2 ^ 1 * E2 (q - 2)) = (4 * mant + 2) * E2 (q - 2) := by rw [← Nat.mul_assoc]; congr 1; omega
    rw [k1] at h1; rw [k2] at h2
    exact ⟨h1, h2⟩
  have hT10s : T10 (q * 78913 / 262144 + 1) = 10 * T10 (q * 78913 / 262144) := T10_succ _ (by omega)
  have hdmin : dmin mant q z = (usp ((2 * mant - 1) * 2 ^ (z - 1)) (q - z) (sp mant q) + mant % 2 + 3) / 4 := by unfold dmin; rw [e1]
  have hdmax : dmax mant q z = (usp ((2 * mant + 1) * 2 ^ (z - 1)) (q - z) (sp mant q) - mant % 2) / 4 := by unfold dmax; rw [e2]
  have hdmid : dmid mant q z = rnd (usp ((2 * mant) * 2 ^ (z - 1)) (q - z) (sp mant q)) := by unfold dmid; rw [e3]
  have nlo := fun K => near (2 * mant - 1) K (by omega) (by omega)
  have nhi := fun K => near (2 * mant + 1) K (by omega) (by omega)
  have nmi := fun K => near (2 * mant) K (by omega) (by omega)
  have xlo := fun d => exact' (2 * mant - 1) d (by omega) (by omega)
  have xhi := fun d => exact' (2 * mant + 1) d (by omega) (by omega)
  obtain ⟨D, g1, g2, g3, g4, g5⟩ := sf_abs mant (E2 (q - 1)) (T10 (q * 78913 / 262144)) (E2 (q - 61 - z)) _ _ _ hAp hε' hT (by omega) (by omega) hpos hlt (by
    rcases u3 with r | r
    · left; exact hq0 r
    · right; omega) nlo nhi nmi xlo xhi
  have hI := hInI _ g3 g4
  unfold Good sfd
  rw [hmp, hmp1, hdmin, hdmax, hdmid]
  rcases g5 with ⟨c1, rfl⟩ | ⟨c1, c2, rfl⟩ | ⟨c1, c2, rfl⟩
  · rw [if_pos c1]
    refine ⟨by omega, by omega, by omega, by omega, ?_⟩
    show InI mant q (_ * T10 (q * 78913 / 262144 + 1))
    rw [hT10s, ← Nat.mul_assoc]
    exact hI
  · rw [if_neg c1, if_pos c2]
    exact ⟨g1, g2, by omega, by omega, hI⟩
  · rw [if_neg c1, if_neg c2]
    exact ⟨g1, g2, by omega, by omega, hI⟩

theorem okR_good (mant : Nat) (q : Int) (r : Nat × Int) (h : okR mant q r = true) (h1 : mant = 4503599627370496) (h2 : q ≠ -1074) : Good mant q r := by
  unfold okR at h
  simp only [Bool.and_eq_true, Nat.ble_eq, Nat.blt_eq, decide_eq_true_eq] at h
  obtain ⟨⟨⟨⟨⟨a, b⟩, c⟩, d⟩, e⟩, f⟩ := h
  refine ⟨a, b, c, d, ?_⟩
  unfold InI lowq
  rw [if_pos ⟨h1, h2⟩, show mant % 2 = 0 by omega, Nat.add_zero, Nat.add_zero]
  exact ⟨e, f⟩
theorem sf_good {mant : Nat} {q : Int} (hd : Dbl mant q) (z : Nat) (hz : z = 64 - bitLen mant) : Good mant q (sfd mant q z) := by
  by_cases hr : mant = 4503599627370496 ∧ q ≠ -1074
  · obtain ⟨h1, h2⟩ := hr
    have hz' : z = 11 := by rw [hz, h1]; decide +kernel
    refine okR_good mant q _ ?_ h1 h2
    rw [h1, hz']
    exact irr_all q (by have := hd.lo; omega) hd.hi
  · exact sf_reg hd hr z hz
end YtpefdgaijeefoaaDoor
end Go.Proofs

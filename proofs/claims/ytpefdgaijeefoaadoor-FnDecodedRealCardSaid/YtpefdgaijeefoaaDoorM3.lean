/-
  DECIMALS AND POWERS OF TWO ON ONE SCALE: uscale's answer compares with even numbers as the exact product does, at the code's own scaling (parsing: all even numbers; printing: whole numbers). No condition.
  By an AI agent. No person has read it.
-/
import Derived.Test.YtpefdgaijeefoaaDoorM2
namespace Go.Proofs
namespace YtpefdgaijeefoaaDoor

/-- 10^p and 2^k, both times 10^400 * 2^1300. -/
def c400 : Nat := 400
def c1300 : Nat := 1300
theorem c400_eq : c400 = 400 := rfl
theorem c1300_eq : c1300 = 1300 := rfl
def T10 (p : Int) : Nat := 10 ^ (p + 400).toNat * 2 ^ c1300
def E2 (k : Int) : Nat := 2 ^ (k + 1300).toNat * 10 ^ c400

theorem E2_pos (k : Int) : 0 < E2 k := Nat.mul_pos (Nat.two_pow_pos _) (Nat.pow_pos (by decide))
theorem T10_pos (p : Int) : 0 < T10 p := Nat.mul_pos (Nat.pow_pos (by decide)) (Nat.two_pow_pos _)
theorem E2_add (k : Int) (j : Nat) (hk : -1300 ≤ k) : E2 (k + j) = 2 ^ j * E2 k := by
  unfold E2
  rw [show (k + j + 1300).toNat = j + (k + 1300).toNat by omega, Nat.pow_add, Nat.mul_assoc]
theorem E2_add' (k k' : Int) (j : Nat) (hk : -1300 ≤ k) (h : k' = k + j) : E2 k' = 2 ^ j * E2 k := by rw [h, E2_add k j hk]
theorem E2_mono (k k' : Int) (h : k ≤ k') : E2 k ≤ E2 k' := by
  unfold E2
  exact Nat.mul_le_mul_right _ (Nat.pow_le_pow_right (by decide) (by omega))
theorem E2_lt (k k' : Int) (hk : -1300 ≤ k) (h : k < k') : 2 * E2 k ≤ E2 k' := by
  have := E2_add' k (k + 1) 1 hk (by omega)
  have := E2_mono (k + 1) k' (by omega)
  omega

theorem link (i : Nat) (h : i < 696) : pnum i * E2 (lpw ((i : Int) - 348) - 127) = pden i * T10 ((i : Int) - 348) := by
  unfold pnum pden E2 T10 lpw
  have h4 := c400_eq
  have h13 := c1300_eq
  by_cases c : 348 ≤ i
  · rw [if_pos c, if_pos c]
    obtain ⟨q, rfl⟩ : ∃ q, i = 348 + q := ⟨i - 348, by omega⟩
    rw [show 348 + q - 348 = q by omega, show (((348 + q : Nat) : Int) - 348) = (q : Int) by omega]
    generalize hL : q * 108853 / 32768 = L
    obtain ⟨k, hk⟩ : ∃ k : Nat, k = 1173 := ⟨_, rfl⟩
    rw [show ((q : Int) * 108853 / 32768 - 127 + 1300).toNat = L + k by omega, show ((q : Int) + 400).toNat = q + c400 by omega]
    have e2 : (2 : Nat) ^ c1300 = 2 ^ 127 * 2 ^ k := by rw [← Nat.pow_add]; congr 1; omega
    rw [e2, Nat.pow_add 2 L, Nat.pow_add 10 q]
    simp only [Nat.mul_assoc, Nat.mul_comm, Nat.mul_left_comm]
  · rw [if_neg c, if_neg c]
    obtain ⟨q, hq⟩ : ∃ q, q = 348 - i := ⟨_, rfl⟩
    rw [← hq, show ((i : Int) - 348) = -(q : Int) by omega]
    generalize hL : (q * 108853 + 32767) / 32768 = L
    rw [show (-(q : Int) * 108853 / 32768 - 127 + 1300).toNat = 1173 - L by omega, show (-(q : Int) + 400).toNat = 400 - q by omega]
    have e1 : (10 : Nat) ^ c400 = 10 ^ q * 10 ^ (400 - q) := by rw [← Nat.pow_add]; congr 1; omega
    have e2 : (2 : Nat) ^ c1300 = 2 ^ (127 + L) * 2 ^ (1173 - L) := by rw [← Nat.pow_add]; congr 1; omega
    rw [e1, e2]
    simp only [Nat.mul_assoc, Nat.mul_comm, Nat.mul_left_comm]

/-- the row of a power. -/
def ix (p : Int) : Nat := (p + 348).toNat
theorem ix_eq (p : Int) (h : -348 ≤ p) : ((ix p : Nat) : Int) - 348 = p := by unfold ix; omega
theorem lpw_bounds (p : Int) (h1 : -348 ≤ p) (h2 : p < 348) : -1157 ≤ lpw p ∧ lpw p ≤ 1153 := by unfold lpw; omega

theorem T10_bounds (p : Int) (h1 : -348 ≤ p) (h2 : p < 348) : E2 (lpw p) ≤ T10 p ∧ 1024 * T10 p ≤ 1023 * E2 (lpw p + 1) := by
  have hi : ix p < 696 := by unfold ix; omega
  obtain ⟨_, _, _, _, _, f, g⟩ := row_facts (ix p) hi
  have l := link (ix p) hi
  rw [ix_eq p h1] at l
  have hl := lpw_bounds p h1 h2
  have a := E2_add' (lpw p - 127) (lpw p) 127 (by omega) (by omega)
  have b := E2_add' (lpw p - 127) (lpw p + 1) 128 (by omega) (by omega)
  have hM := pden_pos (ix p)
  generalize pnum (ix p) = N at *
  generalize pden (ix p) = M at *
  generalize E2 (lpw p - 127) = E at *
  constructor
  · refine Nat.le_of_mul_le_mul_left ?_ hM
    rw [a, ← l]
    have := Nat.mul_le_mul_right E f
    rw [show M * (2 ^ 127 * E) = 2 ^ 127 * M * E by simp only [Nat.mul_assoc, Nat.mul_left_comm]]
    exact this
  · refine Nat.le_of_mul_le_mul_left ?_ hM
    rw [b]
    have := Nat.mul_le_mul_right E g
    rw [show M * (1024 * T10 p) = 1024 * (M * T10 p) by rw [Nat.mul_left_comm], ← l]
    calc 1024 * (N * E) = 1024 * N * E := by rw [Nat.mul_assoc]
      _ ≤ 1023 * (2 ^ 128 * M) * E := this
      _ = M * (1023 * (2 ^ 128 * E)) := by simp only [Nat.mul_assoc, Nat.mul_left_comm]

/-- what uscale gives, on the one scale: 4 * x * 2^e * 10^p against even numbers. -/
def usp (x : Nat) (e p : Int) : Nat := us x (row (ix p)).1 (row (ix p)).2 (-(e + lpw p + 3)).toNat
theorem us_real (x : Nat) (e p : Int) (K : Nat) (h1 : -348 ≤ p) (h2 : p < 348) (hs : 0 ≤ -(e + lpw p + 3)) (hx : x < 18446744073709551616) (hx2 : 4 ≤ x) (hK : K % 2 = 0) :
    (usp x e p < K → x * T10 p < K * E2 (-e - 2)) ∧ (K < usp x e p → K * E2 (-e - 2) < x * T10 p)
    ∧ (usp x e p = K → K * E2 (-e - 2) < x * T10 p + E2 (lpw p - 62) ∧ x * T10 p < K * E2 (-e - 2) + E2 (lpw p - 62)) := by
  have hi : ix p < 696 := by unfold ix; omega
  obtain ⟨r1, r2, r3, r4, r5, _, _⟩ := row_facts (ix p) hi
  have l := link (ix p) hi
  rw [ix_eq p h1] at l
  have hl := lpw_bounds p h1 h2
  have hM := pden_pos (ix p)
  have main := us_cmp x (row (ix p)).1 (row (ix p)).2 (-(e + lpw p + 3)).toNat (pden (ix p)) (pnum (ix p)) K hx r2 r3 (by
    have := Nat.mul_le_mul hx2 r1
    omega) hM r4 r5 hK
  have a := E2_add' (lpw p - 127) (-e - 2) ((-(e + lpw p + 3)).toNat + 128) (by omega) (by omega)
  have b := E2_add' (lpw p - 127) (lpw p - 62) 65 (by omega) (by omega)
  have hE := E2_pos (lpw p - 127)
  change (usp x e p < K → _) ∧ (K < usp x e p → _) ∧ (usp x e p = K → _) at main
  generalize (-(e + lpw p + 3)).toNat = s at *
  generalize usp x e p = u at *
  generalize pnum (ix p) = N at *
  generalize pden (ix p) = M at *
  rw [a, b]
  generalize E2 (lpw p - 127) = E at *
  have c1 : M * (x * T10 p) = x * N * E := by rw [Nat.mul_left_comm, ← l, Nat.mul_assoc]
  have c2 : M * (K * (2 ^ (s + 128) * E)) = K * 2 ^ s * 340282366920938463463374607431768211456 * M * E := by
    rw [Nat.pow_add]
    generalize 2 ^ s = G
    rw [show (2 : Nat) ^ 128 = 340282366920938463463374607431768211456 by rfl]
    simp only [Nat.mul_assoc, Nat.mul_comm, Nat.mul_left_comm]
  have c3 : M * (2 ^ 65 * E) = 36893488147419103232 * M * E := by
    rw [show (2 : Nat) ^ 65 = 36893488147419103232 by rfl, Nat.mul_left_comm, Nat.mul_assoc]
  obtain ⟨m1, m2, m3⟩ := main
  refine ⟨fun h => ?_, fun h => ?_, fun h => ⟨?_, ?_⟩⟩
  · refine Nat.lt_of_mul_lt_mul_left (a := M) ?_
    rw [c1, c2]; exact Nat.mul_lt_mul_of_pos_right (m1 h) hE
  · refine Nat.lt_of_mul_lt_mul_left (a := M) ?_
    rw [c1, c2]; exact Nat.mul_lt_mul_of_pos_right (m2 h) hE
  · refine Nat.lt_of_mul_lt_mul_left (a := M) ?_
    rw [Nat.mul_add, c1, c2, c3, ← Nat.add_mul]; exact Nat.mul_lt_mul_of_pos_right (m3 h).1 hE
  · refine Nat.lt_of_mul_lt_mul_left (a := M) ?_
    rw [Nat.mul_add, c1, c2, c3, ← Nat.add_mul]
    refine Nat.mul_lt_mul_of_pos_right ?_ hE
    have := (m3 h).2
    rw [Nat.add_mul] at this
    exact this

/-- the gap on the one scale. -/
theorem gap_real (p : Int) (D Y : Nat) (h1 : -328 ≤ p) (h2 : p < 333) (h0 : 0 < D) (hD : D < 144115188075855872) :
    D * T10 p = Y * E2 (lpw p + 3) ∨ D * T10 p + E2 (lpw p - 64) ≤ Y * E2 (lpw p + 3) ∨ Y * E2 (lpw p + 3) + E2 (lpw p - 64) ≤ D * T10 p := by
  have hi : ix p < 696 := by unfold ix; omega
  have g := gap (ix p) D Y (by unfold ix; omega) (by unfold ix; omega) h0 hD
  have l := link (ix p) hi
  rw [ix_eq p (by omega)] at l
  have hl := lpw_bounds p (by omega) (by omega)
  have hM := pden_pos (ix p)
  have a := E2_add' (lpw p - 127) (lpw p + 3) 130 (by omega) (by omega)
  have b := E2_add' (lpw p - 127) (lpw p - 64) 63 (by omega) (by omega)
  unfold pB pT at g
  rw [a, b]
  generalize E2 (lpw p - 127) = E at *
  generalize pnum (ix p) = N at *
  generalize pden (ix p) = M at *
  have c1 : M * (D * T10 p) = D * N * E := by rw [Nat.mul_left_comm, ← l, Nat.mul_assoc]
  have c2 : M * (Y * (2 ^ 130 * E)) = Y * (M * 1361129467683753853853498429727072845824) * E := by
    rw [show (2 : Nat) ^ 130 = 1361129467683753853853498429727072845824 by rfl]
    simp only [Nat.mul_comm, Nat.mul_left_comm]
  have c3 : M * (2 ^ 63 * E) = M * 9223372036854775808 * E := by
    rw [show (2 : Nat) ^ 63 = 9223372036854775808 by rfl, Nat.mul_assoc]
  rcases g with g | g | g
  · left
    refine Nat.eq_of_mul_eq_mul_left hM ?_
    rw [c1, c2, g]
  · right; left
    refine Nat.le_of_mul_le_mul_left ?_ hM
    rw [Nat.mul_add, c1, c2, c3, ← Nat.add_mul]
    exact Nat.mul_le_mul_right E g
  · right; right
    refine Nat.le_of_mul_le_mul_left ?_ hM
    rw [Nat.mul_add, c1, c2, c3, ← Nat.add_mul]
    exact Nat.mul_le_mul_right E g
end YtpefdgaijeefoaaDoor
end Go.Proofs

/-
  UNROUNDED SCALING, IN NUMBERS: what the code's uscale gives, against the even numbers, is what the exact product gives; where the gap shuts out a near miss, exactly. No condition.
  By an AI agent. No person has read it.
-/
import Derived.Test.YtpefdgaijeefoaaDoorM1
namespace Go.Proofs
namespace YtpefdgaijeefoaaDoor

theorem or1 (a : Nat) : a ||| 1 = 2 * (a / 2) + 1 := by
  have h1 : (a ||| 1) / 2 = a / 2 := by rw [Nat.or_div_two]; simp
  have h2 : (a ||| 1) % 2 = 1 := by rw [Nat.or_mod_two_eq_one]; right; rfl
  omega

def us (x hi lo s : Nat) : Nat :=
  if x * hi / 18446744073709551616 / 2 ^ s * 2 ^ s = x * hi / 18446744073709551616 then
    (x * hi / 18446744073709551616 - (if x * hi % 18446744073709551616 < x * lo / 18446744073709551616 then 1 else 0)) / 2 ^ s
      ||| (if 1 < (x * hi % 18446744073709551616 + 18446744073709551616 - x * lo / 18446744073709551616) % 18446744073709551616 then 1 else 0)
  else x * hi / 18446744073709551616 / 2 ^ s ||| 1

/-- the bounds of the exact product, in whole numbers: 'A' stands for x * (hi * 2^64 - lo). -/
theorem prod_bounds (x hi lo M N : Nat) (hx : 0 < x) (hlo : lo < hi * 18446744073709551616) (h1 : (hi * 18446744073709551616 - lo - 1) * M < N) (h2 : N ≤ (hi * 18446744073709551616 - lo) * M) (A : Nat)
    (hA : A + x * lo = x * hi * 18446744073709551616) : x * N ≤ A * M ∧ A * M < x * N + x * M ∧ x ≤ A := by
  have e : x * (hi * 18446744073709551616 - lo) = A := by
    have : x * (hi * 18446744073709551616 - lo) + x * lo = x * hi * 18446744073709551616 := by
      rw [← Nat.mul_add, Nat.sub_add_cancel (Nat.le_of_lt hlo), Nat.mul_assoc]
    omega
  obtain ⟨t, ht⟩ : ∃ t, hi * 18446744073709551616 - lo = t + 1 := ⟨hi * 18446744073709551616 - lo - 1, by omega⟩
  rw [ht] at h1 h2 e
  rw [show t + 1 - 1 = t by omega] at h1
  subst e
  refine ⟨?_, ?_, ?_⟩
  · rw [Nat.mul_assoc]; exact Nat.mul_le_mul_left x h2
  · have := Nat.mul_lt_mul_of_pos_left h1 hx
    rw [Nat.mul_assoc, Nat.add_mul, Nat.one_mul, Nat.mul_add]
    omega
  · rw [Nat.mul_add, Nat.mul_one]; omega

/-- from bounds on A to bounds on n = x * N: what lies below, above, near. -/
theorem below_of (n M A Q : Nat) (hM : 0 < M) (h : n ≤ A * M) (hq : A < Q) : n < Q * M :=
  Nat.lt_of_le_of_lt h (Nat.mul_lt_mul_of_pos_right hq hM)
theorem above_of (n M A x Q : Nat) (h : A * M < n + x * M) (hq : Q + x ≤ A) : Q * M < n := by
  have := Nat.mul_le_mul_right M hq
  rw [Nat.add_mul] at this
  omega

theorem us_cmp (x hi lo s M N K : Nat) (hx : x < 18446744073709551616) (hhi : hi < 18446744073709551616) (hlo : lo < 18446744073709551616)
    (hH : 18446744073709551616 ≤ x * hi) (hM : 0 < M) (h1 : (hi * 18446744073709551616 - lo - 1) * M < N) (h2 : N ≤ (hi * 18446744073709551616 - lo) * M) (hK : K % 2 = 0) :
    (us x hi lo s < K → x * N < K * 2 ^ s * 340282366920938463463374607431768211456 * M)
    ∧ (K < us x hi lo s → K * 2 ^ s * 340282366920938463463374607431768211456 * M < x * N)
    ∧ (us x hi lo s = K → K * 2 ^ s * 340282366920938463463374607431768211456 * M < x * N + 36893488147419103232 * M ∧ x * N < (K * 2 ^ s * 340282366920938463463374607431768211456 + 36893488147419103232) * M) := by
  have hx0 : 0 < x := by rcases Nat.eq_zero_or_pos x with r | r; (subst r; omega); exact r
  have hhi0 : 0 < hi := by rcases Nat.eq_zero_or_pos hi with r | r; (subst r; omega); exact r
  have hxl : x * lo ≤ x * 18446744073709551615 := Nat.mul_le_mul_left x (by omega)
  have hlo' : lo < hi * 18446744073709551616 := by omega
  obtain ⟨A, hA⟩ : ∃ A, A + x * lo = x * hi * 18446744073709551616 := by
    have : x * lo ≤ x * hi * 18446744073709551616 := by
      rw [Nat.mul_assoc]; exact Nat.mul_le_mul_left x (Nat.le_of_lt hlo')
    exact ⟨x * hi * 18446744073709551616 - x * lo, by omega⟩
  obtain ⟨b1, b2, b3⟩ := prod_bounds x hi lo M N hx0 hlo' h1 h2 A hA
  unfold us
  generalize x * N = n at *
  generalize x * hi = P at *
  generalize x * lo = R at *
  have hG : 0 < 2 ^ s := Nat.two_pow_pos s
  generalize 2 ^ s = G at *
  have e1 := Nat.div_add_mod P 18446744073709551616
  have e2 := Nat.mod_lt P (show 0 < 18446744073709551616 by decide)
  have e3 := Nat.div_add_mod R 18446744073709551616
  have e4 := Nat.mod_lt R (show 0 < 18446744073709551616 by decide)
  generalize P / 18446744073709551616 = H at *
  generalize P % 18446744073709551616 = mid at *
  generalize R / 18446744073709551616 = c at *
  generalize R % 18446744073709551616 = l at *
  have e5 := Nat.div_add_mod H G
  have e6 := Nat.mod_lt H hG
  generalize hr : H % G = r at *
  generalize ha : H / G = a at *
  rw [Nat.mul_comm a G]
  -- multiples of G
  have mono : ∀ u v : Nat, u ≤ v → G * u ≤ G * v := fun u v h => Nat.mul_le_mul_left G h
  have succ : ∀ u : Nat, G * (u + 1) = G * u + G := fun u => by rw [Nat.mul_add, Nat.mul_one]
  rw [Nat.mul_comm K G]
  by_cases hr0 : r = 0
  · subst hr0
    rw [if_pos (by omega)]
    have hc : c ≤ 18446744073709551614 := by omega
    by_cases hmc : mid < c
    · rw [if_pos hmc]
      have ha1 : 1 ≤ a := by
        rcases Nat.eq_zero_or_pos a with q | q
        · subst q; simp at e5; omega
        · exact q
      obtain ⟨a', rfl⟩ : ∃ a', a = a' + 1 := ⟨a - 1, by omega⟩
      have sa := succ a'
      have hd : (H - 1) / G = a' := by
        refine (Nat.div_eq_iff hG).2 ⟨?_, ?_⟩
        · rw [Nat.mul_comm]; omega
        · rw [Nat.mul_comm]; omega
      rw [hd, if_pos (by omega), or1]
      refine ⟨fun h => ?_, fun h => ?_, fun h => by omega⟩
      · have := mono (a' + 1) K (by omega)
        exact below_of n M A _ hM b1 (by omega)
      · have := mono K a' (by omega)
        exact above_of n M A x _ b2 (by omega)
    · rw [if_neg hmc, Nat.sub_zero, ha]
      have em : (mid + 18446744073709551616 - c) % 18446744073709551616 = mid - c := by omega
      rw [em]
      by_cases h2' : 1 < mid - c
      · rw [if_pos h2', or1]
        have sa := succ a
        refine ⟨fun h => ?_, fun h => ?_, fun h => by omega⟩
        · have := mono (a + 1) K (by omega)
          exact below_of n M A _ hM b1 (by omega)
        · have := mono K a (by omega)
          exact above_of n M A x _ b2 (by omega)
      · rw [if_neg h2', Nat.or_zero]
        have sa := succ a
        refine ⟨fun h => ?_, fun h => ?_, fun h => ?_⟩
        · have := mono (a + 1) K (by omega)
          exact below_of n M A _ hM b1 (by omega)
        · have := mono (K + 1) a (by omega)
          have := succ K
          exact above_of n M A x _ b2 (by omega)
        · subst h
          refine ⟨?_, ?_⟩
          · rcases Nat.lt_or_ge (G * a * 340282366920938463463374607431768211456) 36893488147419103232 with q | q
            · have : G * a * 340282366920938463463374607431768211456 * M ≤ 36893488147419103232 * M := Nat.mul_le_mul_right M (by omega)
              have hn : 0 < n := by
                have := Nat.mul_le_mul_right M b3
                have hxM := Nat.mul_pos hx0 hM
                omega
              omega
            · have := above_of n M A x (G * a * 340282366920938463463374607431768211456 - 36893488147419103232) b2 (by omega)
              rw [Nat.sub_mul] at this
              omega
          · exact below_of n M A _ hM b1 (by omega)
  · have hne : G * a ≠ H := by omega
    rw [if_neg hne, or1]
    have sa := succ a
    refine ⟨fun h => ?_, fun h => ?_, fun h => by omega⟩
    · have := mono (a + 1) K (by omega)
      exact below_of n M A _ hM b1 (by omega)
    · have := mono K a (by omega)
      exact above_of n M A x _ b2 (by omega)
end YtpefdgaijeefoaaDoor
end Go.Proofs

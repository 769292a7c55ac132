/-
  THE MODEL's FLOATS: a number in a double's rounding interval is rounded to it; a double's word reads as the double; a quotient that is kept with a sticky digit stays in the interval. No condition.
  By an AI agent. No person has read it.
-/
import Derived.Test.YtpefdgaijeefoaaDoorM4
import Ieee.Arith
namespace Go.Proofs
namespace YtpefdgaijeefoaaDoor
open Go.Lib Ieee

theorem log2_bounds (n : Nat) (h : n ≠ 0) : 2 ^ n.log2 ≤ n ∧ n < 2 ^ (n.log2 + 1) := ⟨Nat.log2_self_le h, Nat.lt_log2_self⟩

theorem cut_even (neg : Bool) (n drop mant : Nat) (h0 : 0 < mant) (hn : n ≠ 0) (h1 : (2 * mant - 1) * 2 ^ drop + mant % 2 ≤ 2 * n) (h2 : 2 * n + mant % 2 ≤ (2 * mant + 1) * 2 ^ drop) :
    Toward.even.cut neg n drop = mant := by
  obtain ⟨l1, l2⟩ := log2_bounds n hn
  have hd : drop ≤ n.log2 + 2 := by
    refine Decidable.byContradiction fun h => ?_
    have := Nat.pow_le_pow_right (show 0 < 2 by decide) (show n.log2 + 2 ≤ drop by omega)
    rw [show n.log2 + 2 = n.log2 + 1 + 1 by omega, Nat.pow_succ] at this
    have := Nat.le_mul_of_pos_left (2 ^ drop) (show 0 < 2 * mant - 1 by omega)
    omega
  unfold Toward.cut
  simp only [Nat.min_eq_left hd, Nat.one_shiftLeft]
  have hG := Nat.two_pow_pos drop
  generalize 2 ^ drop = G at *
  have dm := Nat.div_add_mod n G
  have dl := Nat.mod_lt n hG
  generalize n / G = low at *
  generalize n % G = rest at *
  have k1 : (2 * mant - 1) * G + G = 2 * (G * mant) := by
    rw [← Nat.succ_mul, Nat.mul_comm G mant, ← Nat.mul_assoc]; congr 1; omega
  have k2 : (2 * mant + 1) * G = 2 * (G * mant) + G := by rw [Nat.succ_mul, Nat.mul_comm G mant, ← Nat.mul_assoc]
  rw [k2] at h2
  rcases Nat.lt_trichotomy low mant with r | r | r
  · have hm : low + 1 = mant := by
      refine Decidable.byContradiction fun h => ?_
      have := Nat.mul_le_mul_left G (show low + 2 ≤ mant by omega)
      rw [Nat.mul_add] at this
      omega
    have k3 : G * mant = G * low + G := by rw [← hm, Nat.mul_add, Nat.mul_one]
    have : (decide (G < 2 * rest) || (G == 2 * rest && low % 2 == 1)) = true := by
      simp only [Bool.or_eq_true, decide_eq_true_eq, Bool.and_eq_true, beq_iff_eq]
      omega
    rw [this]; exact hm
  · subst r
    have : (decide (G < 2 * rest) || (G == 2 * rest && low % 2 == 1)) = false := by
      simp only [Bool.or_eq_false_iff, decide_eq_false_iff_not, Bool.and_eq_false_iff, beq_eq_false_iff_ne]
      omega
    rw [this]; rfl
  · exfalso
    have := Nat.mul_le_mul_left G (show mant + 1 ≤ low from r)
    rw [Nat.mul_add] at this
    omega

theorem rung_lt {mant : Nat} {q : Int} (hd : Dbl mant q) : rung mant q < double.infRung := by
  have h1 := hd.lt
  have h2 := hd.hi
  have e : double.infRung = 9218868437227405312 := by decide +kernel
  rw [e]; unfold rung; omega

/-- the word nearest to a number in the rounding interval of a double is the double's. -/
theorem nearest_right {mant : Nat} {q : Int} (hd : Dbl mant q) (neg : Bool) (mag : Nat) (place : Int) (hp : -1290 ≤ place) (h : InI mant q (mag * E2 place)) :
    double.nearest neg mag place = double.word neg (rung mant q) := by
  have hm0 : mag ≠ 0 := by
    rintro rfl
    have := h.1
    have a := E2_pos (q - 2)
    have : 2 * E2 (q - 2) ≤ lowq mant q * E2 (q - 2) := Nat.mul_le_mul_right _ (by unfold lowq; have := hd.pos; split <;> omega)
    omega
  obtain ⟨l1, l2⟩ := log2_bounds mag hm0
  have hrl := rung_lt hd
  unfold Format.nearest
  rw [if_neg hm0]
  have hLp : double.leastPlace = -1074 := by decide +kernel
  have hfb : double.fractionBits = 52 := rfl
  have hbn : double.binade = 4503599627370496 := by decide +kernel
  simp only [hLp, hfb, hbn]
  generalize hl : mag.log2 = l at *
  obtain ⟨L, hL⟩ : ∃ L : Int, L = max (place + l - (52 : Nat)) (-1074) := ⟨_, rfl⟩
  rw [← hL]
  have hLl : L ≥ -1074 ∧ L ≥ place + l - 52 ∧ (L = -1074 ∨ L = place + l - 52) := by omega
  clear hL
  have x1 : E2 (place + (l : Nat)) ≤ mag * E2 place := by
    rw [E2_add place l (by omega)]; exact Nat.mul_le_mul_right _ l1
  have x2 : mag * E2 place < E2 (place + (l + 1 : Nat)) := by
    rw [E2_add place (l + 1) (by omega)]; exact Nat.mul_lt_mul_of_pos_right l2 (E2_pos place)
  have x3 := E2_mono (place + (l + 1 : Nat)) (L + 53) (by omega)
  have x4 := E2_add' (L - 2) (L + 53) 55 (by omega) (by omega)
  have hUp := E2_pos (L - 2)
  -- what is kept, given its bounds
  have kept : ∀ c : Nat, 0 < c → (4 * c - 2) * E2 (L - 2) + c % 2 ≤ mag * E2 place → mag * E2 place + c % 2 ≤ (4 * c + 2) * E2 (L - 2) →
      Toward.even.cut neg (mag <<< (place - L).toNat) (L - place).toNat = c := by
    intro c c0 c1 c2
    rw [Nat.shiftLeft_eq]
    by_cases hpl : L ≤ place
    · rw [show (L - place).toNat = 0 by omega]
      have e1 := E2_add' L place (place - L).toNat (by omega) (by omega)
      have e2 := E2_add' (L - 2) L 2 (by omega) (by omega)
      rw [e1, e2] at c1 c2
      have k : mag * (2 ^ (place - L).toNat * (2 ^ 2 * E2 (L - 2))) = (4 * (mag * 2 ^ (place - L).toNat)) * E2 (L - 2) := by
        rw [show (2 : Nat) ^ 2 = 4 by rfl, ← Nat.mul_assoc, ← Nat.mul_assoc, Nat.mul_comm (mag * _) 4]
      rw [k] at c1 c2
      generalize hN : mag * 2 ^ (place - L).toNat = N at *
      have d1 : 4 * c - 2 ≤ 4 * N := Nat.le_of_mul_le_mul_right (c := E2 (L - 2)) (by omega) hUp
      have d2 : 4 * N ≤ 4 * c + 2 := Nat.le_of_mul_le_mul_right (c := E2 (L - 2)) (by omega) hUp
      have hNc : N = c := by omega
      exact cut_even neg N 0 c c0 (by omega) (by omega) (by omega)
    · rw [show (place - L).toNat = 0 by omega, Nat.pow_zero, Nat.mul_one]
      have e1 := E2_add' place L (L - place).toNat (by omega) (by omega)
      have e2 := E2_add' (L - 2) L 2 (by omega) (by omega)
      have hE := E2_pos place
      have f1 : (2 * c - 1) * 2 ^ (L - place).toNat * E2 place * 2 = 4 * ((4 * c - 2) * E2 (L - 2)) := by
        rw [Nat.mul_assoc _ _ (E2 place), ← e1, e2, show 4 * c - 2 = 2 * (2 * c - 1) by omega]
        rw [show (2 : Nat) ^ 2 = 4 by rfl]; simp only [Nat.mul_assoc, Nat.mul_comm, Nat.mul_left_comm]
      have f2 : (2 * c + 1) * 2 ^ (L - place).toNat * E2 place * 2 = 4 * ((4 * c + 2) * E2 (L - 2)) := by
        rw [Nat.mul_assoc _ _ (E2 place), ← e1, e2, show 4 * c + 2 = 2 * (2 * c + 1) by omega]
        rw [show (2 : Nat) ^ 2 = 4 by rfl]; simp only [Nat.mul_assoc, Nat.mul_comm, Nat.mul_left_comm]
      refine cut_even neg mag (L - place).toNat c c0 hm0 ?_ ?_
      · rcases Nat.mod_two_eq_zero_or_one c with r | r
        · rw [r, Nat.add_zero]
          refine Nat.le_of_mul_le_mul_right (c := E2 place) ?_ hE
          rw [Nat.mul_assoc 2]; omega
        · rw [r]
          refine Nat.lt_of_mul_lt_mul_right (a := E2 place) ?_
          rw [Nat.mul_assoc 2]; omega
      · rcases Nat.mod_two_eq_zero_or_one c with r | r
        · rw [r, Nat.add_zero]
          refine Nat.le_of_mul_le_mul_right (c := E2 place) ?_ hE
          rw [Nat.mul_assoc 2]; omega
        · rw [r]
          refine Nat.lt_of_mul_lt_mul_right (a := E2 place) ?_
          rw [Nat.mul_assoc 2]; omega
  obtain ⟨i1, i2⟩ := h
  have hpos := hd.pos
  have i1' : (4 * mant - 2) * E2 (q - 2) + mant % 2 ≤ mag * E2 place := by
    refine Nat.le_trans (Nat.add_le_add_right (Nat.mul_le_mul_right _ ?_) _) i1
    unfold lowq; split <;> omega
  have hlo54 : L = -1074 ∨ 18014398509481984 * E2 (L - 2) ≤ mag * E2 place := by
    rcases hLl.2.2 with r | r
    · left; exact r
    · right
      have := E2_add' (L - 2) (place + (l : Nat)) 54 (by omega) (by omega)
      omega
  by_cases hc : mag * E2 place < 36028797018963966 * E2 (L - 2)
  · have hq : q = L := q_eq hd ⟨i1, i2⟩ L hLl.1 (by rcases hlo54 with r | r; (left; exact r); (right; omega)) hc
    subst hq
    rw [kept mant hpos i1' i2]
    refine congrArg (double.word neg) ?_
    unfold rung at hrl ⊢
    rw [show q - -1074 = q + 1074 by omega]
    exact Nat.min_eq_left (by omega)
  · have y1 := E2_add' (L - 2) (L + 1 - 2) 1 (by omega) (by omega)
    have hq : q = L + 1 := q_eq hd ⟨i1, i2⟩ (L + 1) (by omega) (by right; rw [y1]; omega) (by rw [y1]; omega)
    have hnm : mant = 4503599627370496 := by
      have a := hd.norm
      have : mant < 4503599627370497 := by
        refine Decidable.byContradiction fun h => ?_
        rw [hq, y1] at i1'
        have := Nat.mul_le_mul_right (2 ^ 1 * E2 (L - 2)) (show 18014398509481986 ≤ 4 * mant - 2 by omega)
        omega
      omega
    rw [kept 9007199254740992 (by omega) (by omega) (by omega)]
    refine congrArg (double.word neg) ?_
    unfold rung at hrl ⊢
    have hL1 := hLl.1
    have : (q + 1074).toNat = (L - -1074).toNat + 1 := by omega
    rw [this] at hrl ⊢
    subst hnm
    generalize (L - -1074).toNat = t at *
    rw [Nat.min_eq_left (by omega)]
    omega

theorem read_word {mant : Nat} {q : Int} (hd : Dbl mant q) (neg : Bool) : double.read (double.word neg (rung mant q)) = .number neg mant q := by
  have hrl := rung_lt hd
  have hlo := hd.lo
  have hlt := hd.lt
  unfold Format.read Format.word
  have e1 : double.signWeight = 9223372036854775808 := by decide +kernel
  have e2 : double.infRung = 9218868437227405312 := by decide +kernel
  have hLp : double.leastPlace = -1074 := by decide +kernel
  have hbn : double.binade = 4503599627370496 := by decide +kernel
  rw [e2] at hrl
  simp only [e1, e2, hLp, hbn]
  have hr : rung mant q = (q + 1074).toNat * 4503599627370496 + mant := rfl
  generalize rung mant q = R at *
  have m1 : (if neg then 9223372036854775808 + R else R) % 9223372036854775808 = R := by split <;> omega
  have m2 : ((if neg then 9223372036854775808 + R else R) / 9223372036854775808 % 2 == 1) = neg := by
    cases neg
    · simp; omega
    · simp; omega
  rw [m1, m2]
  by_cases c : R < 4503599627370496
  · rw [if_pos c]
    have hq : q = -1074 := by omega
    subst hq
    congr 1
    omega
  · have hn : 4503599627370496 ≤ mant := by have := hd.norm; omega
    rw [if_neg c, if_pos hrl]
    congr 1 <;> omega

/-- a quotient kept with a sticky digit: it lies where the exact one lies. -/
theorem quot_in {mant : Nat} {q : Int} (hd : Dbl mant q) (X mag : Nat) (place : Int) (hp : -1290 ≤ place) (hm : 18014398509481984 ≤ mag) (hu : Unr mag X (E2 place)) (h : InI mant q X) : InI mant q (mag * E2 place) := by
  obtain ⟨i1, i2⟩ := h
  have hlt := hd.lt
  have hpos := hd.pos
  have hlo := hd.lo
  have hE := E2_pos place
  have v1 : 18014398509481984 * E2 place ≤ X := by
    rcases Nat.lt_or_eq_of_le hm with g | g
    · exact Nat.le_of_lt ((hu 18014398509481984 rfl).2.1 g)
    · exact Nat.le_of_eq ((hu 18014398509481984 rfl).2.2 g.symm).symm
  have hpq : place + 2 ≤ q := by
    refine Decidable.byContradiction fun hn => ?_
    have a := E2_mono (q - 1) place (by omega)
    have b := E2_add' (q - 2) (q - 1) 1 (by omega) (by omega)
    have := Nat.mul_le_mul_right (E2 (q - 2)) (show 4 * mant + 2 ≤ 36028797018963966 by omega)
    have := E2_pos (q - 2)
    omega
  have move : ∀ c : Nat, ∀ w : Int, w = q - 2 → place + 1 ≤ w ∨ c % 2 = 0 → c * E2 w = c * 2 ^ (w - place).toNat * E2 place ∧ (c * 2 ^ (w - place).toNat) % 2 = 0 := by
    intro c w hw hor
    have e := E2_add' place w (w - place).toNat (by omega) (by omega)
    constructor
    · rw [e, Nat.mul_assoc]
    · rcases hor with r | r
      · obtain ⟨t, ht⟩ : ∃ t, (w - place).toNat = t + 1 := ⟨(w - place).toNat - 1, by omega⟩
        rw [ht, Nat.pow_succ, ← Nat.mul_assoc]; omega
      · obtain ⟨t, rfl⟩ : ∃ t, c = 2 * t := ⟨c / 2, by omega⟩
        rw [Nat.mul_assoc]; omega
  obtain ⟨a1, a2⟩ := move (4 * mant + 2) (q - 2) rfl (by right; omega)
  rw [a1] at i2
  generalize hK : (4 * mant + 2) * 2 ^ (q - 2 - place).toNat = K at *
  have up : mag * E2 place + mant % 2 ≤ K * E2 place := by
    rcases Nat.mod_two_eq_zero_or_one mant with r | r
    · rw [r, Nat.add_zero] at i2 ⊢
      exact Nat.mul_le_mul_right _ (hu.le K a2 i2)
    · rw [r] at i2 ⊢
      exact Nat.succ_le_of_lt (Nat.mul_lt_mul_of_pos_right (hu.lt K a2 (Nat.lt_of_succ_le i2)) hE)
  refine ⟨?_, by rw [a1]; exact up⟩
  by_cases hirr : place + 2 = q ∧ mant = 4503599627370496
  · obtain ⟨h1, h2⟩ := hirr
    have e : E2 (q - 2) = E2 place := by rw [show q - 2 = place by omega]
    rw [e]
    have l1 : lowq mant q ≤ 18014398509481983 := by unfold lowq; split <;> omega
    have := Nat.mul_le_mul_right (E2 place) l1
    have := Nat.mul_le_mul_right (E2 place) hm
    omega
  · have hor : place + 1 ≤ q - 2 ∨ lowq mant q % 2 = 0 := by
      unfold lowq; split <;> omega
    obtain ⟨b1, b2⟩ := move (lowq mant q) (q - 2) rfl hor
    rw [b1] at i1 ⊢
    generalize lowq mant q * 2 ^ (q - 2 - place).toNat = K' at *
    rcases Nat.mod_two_eq_zero_or_one mant with r | r
    · rw [r, Nat.add_zero] at i1 ⊢
      exact Nat.mul_le_mul_right _ (hu.ge K' b2 i1)
    · rw [r] at i1 ⊢
      have := Nat.mul_le_mul_right (E2 place) (show K' + 1 ≤ mag from hu.gt K' b2 (Nat.lt_of_succ_le i1))
      rw [Nat.add_mul] at this
      omega
end YtpefdgaijeefoaaDoor
end Go.Proofs

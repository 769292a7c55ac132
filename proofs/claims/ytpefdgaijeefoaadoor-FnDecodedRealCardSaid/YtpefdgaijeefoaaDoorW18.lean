/-
  atof64exact, joined with the numbers. Conditions: the tables read as the library's text lays them.
  By an AI agent. No person has read it.
-/
import Derived.Test.YtpefdgaijeefoaaDoorW17
namespace Go.Proofs
open Go.RowKit Go.Lib Ieee
namespace YtpefdgaijeefoaaDoor

theorem exact_right {mant : Nat} {q : Int} (hd : Dbl mant q) (M : Nat) (E : Int) (neg : Bool) (B : Nat) (w : World) (hB : Base2 B w) (h0 : 0 < M) (hM : M < 18446744073709551616) (hE1 : -345 ≤ E) (hE2 : E ≤ 310) (h : InI mant q (M * T10 E)) :
    Calls Tryd.prog 62 #[.int .u64 M, .int .i64 E, .bool neg] w fun y w' => (∃ v ok, y = .returned (.tuple #[.float .f64 v, .bool ok]) ∧ (ok = true → v = sgn neg + rung mant q)) ∧ w = w' := by
  have no : ∀ {y : Ending} {w' : World}, ((∃ v, y = .returned (.tuple #[.float .f64 v, .bool false])) ∧ w = w') → (∃ v ok, y = .returned (.tuple #[.float .f64 v, .bool ok]) ∧ (ok = true → v = sgn neg + rung mant q)) ∧ w = w' := by
    rintro y w' ⟨⟨v, rfl⟩, e⟩
    exact ⟨⟨v, false, rfl, fun c => by cases c⟩, e⟩
  have yes : ∀ {y : Ending} {w' : World}, (((∃ v, y = .returned (.tuple #[.float .f64 v, .bool false])) ∨ y = .returned (.tuple #[.float .f64 (double.word neg (rung mant q)), .bool true])) ∧ w = w') → (∃ v ok, y = .returned (.tuple #[.float .f64 v, .bool ok]) ∧ (ok = true → v = sgn neg + rung mant q)) ∧ w = w' := by
    rintro y w' ⟨⟨v, rfl⟩ | rfl, e⟩
    · exact ⟨⟨v, false, rfl, fun c => by cases c⟩, e⟩
    · exact ⟨⟨_, true, rfl, fun _ => word_sgn neg _⟩, e⟩
  by_cases hbig : 4503599627370496 ≤ M
  · exact (ex62_a M E neg B w hB hbig hM).mono fun y w' c => no c
  · obtain ⟨m0, q0, d0, g1, g2, g3, e0⟩ := norm_ex M h0 (by omega)
    have hn : floatOfInt .f64 (M : Int) = rung m0 q0 := int_right d0 M (by rw [← e0]; exact InI_self d0)
    have hg := neg_rung d0
    have tn : ∀ i : Nat, M * T10 (i : Int) = 10 ^ i * (M * E2 0) := fun i => by
      have := T10_nat 0 (by omega) i
      rw [Int.zero_add] at this
      rw [this, T10_zero, Nat.mul_left_comm]
    by_cases c0 : E = 0
    · subst c0
      have h' : InI mant q (M * E2 0) := by rw [← T10_zero]; exact h
      have hn' : floatOfInt .f64 (M : Int) = rung mant q := int_right hd M h'
      refine (ex62_0 M (rung mant q) (sgn neg + rung mant q) neg B w hB (by omega) hn' (neg_rung hd) rfl).mono ?_
      rintro y w' ⟨rfl, e⟩
      exact ⟨⟨_, true, rfl, fun _ => rfl⟩, e⟩
    · by_cases c1 : 0 < E ∧ E ≤ 22
      · obtain ⟨i, rfl⟩ : ∃ i : Nat, E = (i : Int) := ⟨E.toNat, by omega⟩
        have hm := mul_right hd d0 neg i (by omega) (by rw [e0, ← tn]; exact h)
        rw [word_sgn neg (rung m0 q0)] at hm
        exact (ex62_m M (rung m0 q0) _ _ i neg B w hB (by omega) hn hg rfl (by omega) (by omega) hm).mono fun y w' c => yes c
      · by_cases c2 : 22 < E ∧ E ≤ 37
        · obtain ⟨i, rfl⟩ : ∃ i : Nat, E = ((i + 22 : Nat) : Int) := ⟨E.toNat - 22, by omega⟩
          obtain ⟨W1, a, b⟩ := two_mul hd M i neg h0 (by omega) (by omega) d0 e0 h
          rw [word_sgn neg (rung m0 q0)] at a
          exact (ex62_mm M (rung m0 q0) _ W1 _ i neg B w hB (by omega) hn hg rfl (by omega) (by omega) a b).mono fun y w' c => yes c
        · by_cases c3 : E < 0 ∧ -22 ≤ E
          · obtain ⟨i, rfl⟩ : ∃ i : Nat, E = -(i : Int) := ⟨(-E).toNat, by omega⟩
            have hX : 10 ^ i * (M * T10 (-(i : Int))) = m0 * E2 q0 := by
              have := T10_nat (-(i : Int)) (by omega) i
              rw [show -(i : Int) + i = 0 by omega, T10_zero] at this
              rw [Nat.mul_left_comm, ← this, e0]
            have hm := div_right hd d0 g1 (by omega) neg i (by omega) _ hX h
            rw [word_sgn neg (rung m0 q0)] at hm
            exact (ex62_d M (rung m0 q0) _ _ i neg B w hB (by omega) hn hg rfl (by omega) (by omega) hm).mono fun y w' c => yes c
          · exact (ex62_o M (rung m0 q0) E neg B w hB (by omega) hn hg (by omega)).mono fun y w' c => no c
end YtpefdgaijeefoaaDoor
end Go.Proofs

/-
  atof64exact: it gives the double of the decimal, or says that it does not know. Conditions: the tables read as the library's text lays them.
  By an AI agent. No person has read it.
-/
import Derived.Test.YtpefdgaijeefoaaDoorW11
import Derived.Test.YtpefdgaijeefoaaDoorM9
import Derived.Laws.FloatArith
namespace Go.Proofs
open Go.RowKit Go.Lib Ieee
namespace YtpefdgaijeefoaaDoor

/-- What the walks of the parsing read besides. -/
structure Base2 (B : Nat) (w : World) : Prop where
  base : Base B w
  fi : w.cell? ⟨4, 0, none⟩ = some (.int .u64 52)
  fp : ∃ F o, F < B ∧ w.cell? ⟨5, 0, none⟩ = some (.slice (some ⟨F, o, none⟩) 23 23) ∧ ∀ i, i < 23 → w.cell? ⟨F, o + i, none⟩ = some (.float .f64 (fpw i))
theorem Base2.below {B : Nat} {w w' : World} (h : Base2 B w) (hb : Below B w w') : Base2 B w' := by
  obtain ⟨h1, h2, F, o, h3, h4, h5⟩ := h
  have h6 := h1.five
  refine ⟨h1.below hb, ?_, F, o, h3, ?_, fun i hi => ?_⟩
  · rw [hb.cell (p := ⟨4, 0, none⟩) (show 4 < B by omega)]; exact h2
  · rw [hb.cell (p := ⟨5, 0, none⟩) (show 5 < B by omega)]; exact h4
  · rw [hb.cell (p := ⟨F, o + i, none⟩) h3]; exact h5 i hi

theorem two_mul {mant : Nat} {q : Int} (hd : Dbl mant q) (M i : Nat) (neg : Bool) (hM0 : 0 < M) (hM : M < 4503599627370496) (hi : i ≤ 15) {m0 : Nat} {q0 : Int} (h0 : Dbl m0 q0) (e : m0 * E2 q0 = M * E2 0)
    (h : InI mant q (M * T10 ((i + 22 : Nat) : Int))) : ∃ W1, double.mul (double.word neg (rung m0 q0)) (fpw i) = some W1 ∧
      ((double.order W1 4831355200913801216 == some .gt) = false → (double.order W1 14054727237768577024 == some .lt) = false → double.mul W1 (fpw 22) = some (double.word neg (rung mant q))) := by
  have hP : 0 < 10 ^ i * M := Nat.mul_pos (Nat.pow_pos (by decide)) hM0
  have h10 := Nat.pow_le_pow_right (show 0 < 10 by decide) hi
  have hP2 : 10 ^ i * M < 2 ^ 110 := by
    have := Nat.mul_le_mul h10 (show M ≤ 4503599627370496 by omega)
    exact Nat.lt_of_le_of_lt this (by decide)
  have eP : 10 ^ i * (m0 * E2 q0) = 10 ^ i * M * E2 0 := by rw [e, Nat.mul_assoc]
  have eT : M * T10 ((i + 22 : Nat) : Int) = 10 ^ 22 * (10 ^ i * M * E2 0) := by
    have := T10_nat 0 (by omega) (i + 22)
    rw [Int.zero_add] at this
    rw [this, T10_zero, Nat.pow_add]
    rw [Nat.mul_comm (10 ^ i) (10 ^ 22), Nat.mul_assoc, Nat.mul_left_comm M, Nat.mul_left_comm M, Nat.mul_assoc]
  by_cases hs : 10 ^ i * M < 9007199254740992
  · obtain ⟨m1, q1, d1, _, _, _, e1⟩ := norm_ex _ hP hs
    refine ⟨double.word neg (rung m1 q1), mul_right d1 h0 neg i (by omega) (by rw [eP, ← e1]; exact InI_self d1), fun _ _ => ?_⟩
    exact mul_right hd d1 neg 22 (by omega) (by rw [e1, ← eT]; exact h)
  · obtain ⟨m1, q1, d1, g1, g2, g3⟩ := round_ex _ (show 9007199254740992 ≤ 10 ^ i * M by omega) hP2
    refine ⟨double.word neg (rung m1 q1), mul_right d1 h0 neg i (by omega) (by rw [eP]; exact g3), fun a b => ?_⟩
    exfalso
    cases neg
    · rw [big_gt d1 g1 g2] at a; cases a
    · rw [big_lt d1 g1 g2] at b; cases b

theorem word_sgn (neg : Bool) (r : Nat) : double.word neg r = sgn neg + r := by
  cases neg
  · simp [Format.word, sgn]
  · show double.signWeight + r = _
    rfl
theorem neg_rung {m : Nat} {q : Int} (hd : Dbl m q) : Op.negFloat .f64 (rung m q) = 9223372036854775808 + rung m q := by
  have h1 : rung m q < 9223372036854775808 := by
    have := hd.lt
    have := hd.hi
    unfold rung; omega
  unfold Op.negFloat
  show rung m q ^^^ 2 ^ 63 = _
  rw [Nat.xor_comm, Nat.add_comm]
  generalize rung m q = r at *
  apply Nat.eq_of_testBit_eq
  intro i
  have t := Nat.testBit_two_pow_mul_add (i := 63) 1 (show r < 2 ^ 63 by omega) i
  rw [show r + 9223372036854775808 = 2 ^ 63 * 1 + r by omega, t, Nat.testBit_xor, Nat.testBit_two_pow]
  by_cases c : i < 63
  · rw [if_pos c]
    have : decide (63 = i) = false := decide_eq_false (by omega)
    rw [this]; simp
  · rw [if_neg c]
    have hr : r.testBit i = false := Nat.testBit_lt_two_pow (Nat.lt_of_lt_of_le (show r < 2 ^ 63 by omega) (Nat.pow_le_pow_right (by decide) (by omega)))
    rw [hr]
    by_cases c2 : 63 = i
    · subst c2; simp
    · have : decide (63 = i) = false := decide_eq_false c2
      rw [this, Nat.testBit_lt_two_pow (Nat.one_lt_two_pow (show i - 63 ≠ 0 by omega))]; rfl

theorem mulR (x y r : Nat) (w : World) (h : double.mul x y = some r) : (binOp .mul 22 (.float .f64 x) (.float .f64 y)).run Tryd.prog w = .ok (.float .f64 r) w := run_float_arith w .mul 22 .f64 x y r h
theorem quoR (x y r : Nat) (w : World) (h : double.div x y = some r) : (binOp .quo 22 (.float .f64 x) (.float .f64 y)).run Tryd.prog w = .ok (.float .f64 r) w := run_float_arith w .quo 22 .f64 x y r h

/-- the walk of atof64exact, with what its float operations give as named facts. -/
theorem ex62_a (M : Nat) (E : Int) (neg : Bool) (B : Nat) (w : World) (hB : Base2 B w) (hM : 4503599627370496 ≤ M) (hM2 : M < 18446744073709551616) :
    Calls Tryd.prog 62 #[.int .u64 M, .int .i64 E, .bool neg] w fun y w' => (∃ v, y = .returned (.tuple #[.float .f64 v, .bool false])) ∧ w = w' := by
  have fi := hB.fi
  clear hB
  have h1 : ((M : Int) / 4503599627370496 != 0) = true := by simp; omega
  go_enter Tryd.func62, Tryd.ntmps62
  go_wp2_with fail
  go_ret2
  exact ⟨⟨_, rfl⟩, rfl⟩
theorem negR (x r : Nat) (w : World) (h : Op.negFloat .f64 x = r) : (Op.unary .neg (.float .f64 x)).run Tryd.prog w = .ok (.float .f64 r) w := by subst h; rfl
theorem ex62_0 (M r0 W0 : Nat) (neg : Bool) (B : Nat) (w : World) (hB : Base2 B w) (hM : M < 4503599627370496) (hn : floatOfInt .f64 (M : Int) = r0) (hg : Op.negFloat .f64 r0 = 9223372036854775808 + r0) (hW : W0 = sgn neg + r0) :
    Calls Tryd.prog 62 #[.int .u64 M, .int .i64 0, .bool neg] w fun y w' => y = .returned (.tuple #[.float .f64 W0, .bool true]) ∧ w = w' := by
  have fi := hB.fi
  clear hB
  have h1 : ((M : Int) / 4503599627370496 != 0) = false := by simp; omega
  cases neg
  · have hW' : W0 = r0 := by rw [hW]; simp [sgn]
    subst hW'
    clear hW
    go_enter Tryd.func62, Tryd.ntmps62
    go_wp2_with fail
    go_ret2
    exact ⟨rfl, rfl⟩
  · have hW' : 9223372036854775808 + r0 = W0 := by rw [hW]; simp [sgn]
    rw [hW'] at hg
    have ng := negR r0 W0 w hg
    clear hW hW' hg
    go_enter Tryd.func62, Tryd.ntmps62
    go_wp2_with fail
    go_ret2
    exact ⟨rfl, rfl⟩
theorem ex62_m (M r0 W0 W i : Nat) (neg : Bool) (B : Nat) (w : World) (hB : Base2 B w) (hM : M < 4503599627370496) (hn : floatOfInt .f64 (M : Int) = r0) (hg : Op.negFloat .f64 r0 = 9223372036854775808 + r0) (hW : W0 = sgn neg + r0)
    (hi1 : 1 ≤ i) (hi : i ≤ 22) (hm : double.mul W0 (fpw i) = some W) :
    Calls Tryd.prog 62 #[.int .u64 M, .int .i64 i, .bool neg] w fun y w' => ((∃ v, y = .returned (.tuple #[.float .f64 v, .bool false])) ∨ y = .returned (.tuple #[.float .f64 W, .bool true])) ∧ w = w' := by
  have fi := hB.fi
  obtain ⟨F, o, _, f1, f2⟩ := hB.fp
  have f3 := f2 i (by omega)
  have mu := mulR W0 (fpw i) W w hm
  obtain ⟨p, hp⟩ : ∃ p, fpw i = p := ⟨_, rfl⟩
  rw [hp] at f3 mu
  obtain ⟨t1, T1⟩ : ∃ t, (FloatKind.f64.format.order W0 4831355200913801216 == some .gt) = t := ⟨_, rfl⟩
  obtain ⟨t2, T2⟩ : ∃ t, (FloatKind.f64.format.order W0 14054727237768577024 == some .lt) = t := ⟨_, rfl⟩
  clear hB f2 hm hp
  have h1 : ((M : Int) / 4503599627370496 != 0) = false := by simp; omega
  have k0 : ((i : Int) == 0) = false := by simp; omega
  have k22 : decide (22 < (i : Int)) = false := decide_eq_false (by omega)
  cases neg
  · have hW' : W0 = r0 := by rw [hW]; simp [sgn]
    subst hW'
    clear hW
    cases t1
    · cases t2
      · go_enter Tryd.func62, Tryd.ntmps62
        go_wp2_with fail
        go_ret2
        exact ⟨Or.inr rfl, rfl⟩
      · go_enter Tryd.func62, Tryd.ntmps62
        go_wp2_with fail
        go_ret2
        exact ⟨Or.inl ⟨_, rfl⟩, rfl⟩
    · go_enter Tryd.func62, Tryd.ntmps62
      go_wp2_with fail
      go_ret2
      exact ⟨Or.inl ⟨_, rfl⟩, rfl⟩
  · have hW' : 9223372036854775808 + r0 = W0 := by rw [hW]; simp [sgn]
    rw [hW'] at hg
    have ng := negR r0 W0 w hg
    clear hW hW' hg
    cases t1
    · cases t2
      · go_enter Tryd.func62, Tryd.ntmps62
        go_wp2_with fail
        go_ret2
        exact ⟨Or.inr rfl, rfl⟩
      · go_enter Tryd.func62, Tryd.ntmps62
        go_wp2_with fail
        go_ret2
        exact ⟨Or.inl ⟨_, rfl⟩, rfl⟩
    · go_enter Tryd.func62, Tryd.ntmps62
      go_wp2_with fail
      go_ret2
      exact ⟨Or.inl ⟨_, rfl⟩, rfl⟩
theorem ex62_mm (M r0 W0 W1 W i : Nat) (neg : Bool) (B : Nat) (w : World) (hB : Base2 B w) (hM : M < 4503599627370496) (hn : floatOfInt .f64 (M : Int) = r0) (hg : Op.negFloat .f64 r0 = 9223372036854775808 + r0) (hW : W0 = sgn neg + r0)
    (hi1 : 1 ≤ i) (hi : i ≤ 15) (hm0 : double.mul W0 (fpw i) = some W1)
    (hm : (double.order W1 4831355200913801216 == some .gt) = false → (double.order W1 14054727237768577024 == some .lt) = false → double.mul W1 (fpw 22) = some W) :
    Calls Tryd.prog 62 #[.int .u64 M, .int .i64 (i + 22 : Nat), .bool neg] w fun y w' => ((∃ v, y = .returned (.tuple #[.float .f64 v, .bool false])) ∨ y = .returned (.tuple #[.float .f64 W, .bool true])) ∧ w = w' := by
  have fi := hB.fi
  obtain ⟨F, o, _, f1, f2⟩ := hB.fp
  have f3 := f2 i (by omega)
  have f4 := f2 22 (by omega)
  have mu0 := mulR W0 (fpw i) W1 w hm0
  obtain ⟨p, hp⟩ : ∃ p, fpw i = p := ⟨_, rfl⟩
  obtain ⟨p2, hp2⟩ : ∃ p, fpw 22 = p := ⟨_, rfl⟩
  rw [hp] at f3 mu0
  rw [hp2] at f4 hm
  obtain ⟨t1, T1⟩ : ∃ t, (FloatKind.f64.format.order W1 4831355200913801216 == some .gt) = t := ⟨_, rfl⟩
  obtain ⟨t2, T2⟩ : ∃ t, (FloatKind.f64.format.order W1 14054727237768577024 == some .lt) = t := ⟨_, rfl⟩
  have HMM := Lib.hid (fun a b => mulR W1 p2 W w (hm a b))
  obtain ⟨e, he⟩ : ∃ e : Nat, i + 22 = e := ⟨_, rfl⟩
  rw [he]
  have hei : (e : Int) - 22 = i := by omega
  have T1' := T1
  have T2' := T2
  clear hB f2 hm hp hp2 hm0
  have h1 : ((M : Int) / 4503599627370496 != 0) = false := by simp; omega
  have k0 : ((e : Int) == 0) = false := by simp; omega
  have k22 : decide (22 < (e : Int)) = true := decide_eq_true (by omega)
  have k37 : decide ((e : Int) ≤ 37) = true := decide_eq_true (by omega)
  have k00 : decide ((0 : Int) < (e : Int)) = true := decide_eq_true (by omega)
  cases neg
  · have hW' : W0 = r0 := by rw [hW]; simp [sgn]
    subst hW'
    clear hW
    cases t1
    · cases t2
      · have mu := HMM.out T1' T2'
        go_enter Tryd.func62, Tryd.ntmps62
        go_wp2_with fail
        go_ret2
        exact ⟨Or.inr rfl, rfl⟩
      · go_enter Tryd.func62, Tryd.ntmps62
        go_wp2_with fail
        go_ret2
        exact ⟨Or.inl ⟨_, rfl⟩, rfl⟩
    · go_enter Tryd.func62, Tryd.ntmps62
      go_wp2_with fail
      go_ret2
      exact ⟨Or.inl ⟨_, rfl⟩, rfl⟩
  · have hW' : 9223372036854775808 + r0 = W0 := by rw [hW]; simp [sgn]
    rw [hW'] at hg
    have ng := negR r0 W0 w hg
    clear hW hW' hg
    cases t1
    · cases t2
      · have mu := HMM.out T1' T2'
        go_enter Tryd.func62, Tryd.ntmps62
        go_wp2_with fail
        go_ret2
        exact ⟨Or.inr rfl, rfl⟩
      · go_enter Tryd.func62, Tryd.ntmps62
        go_wp2_with fail
        go_ret2
        exact ⟨Or.inl ⟨_, rfl⟩, rfl⟩
    · go_enter Tryd.func62, Tryd.ntmps62
      go_wp2_with fail
      go_ret2
      exact ⟨Or.inl ⟨_, rfl⟩, rfl⟩
theorem ex62_d (M r0 W0 W i : Nat) (neg : Bool) (B : Nat) (w : World) (hB : Base2 B w) (hM : M < 4503599627370496) (hn : floatOfInt .f64 (M : Int) = r0) (hg : Op.negFloat .f64 r0 = 9223372036854775808 + r0) (hW : W0 = sgn neg + r0)
    (hi1 : 1 ≤ i) (hi : i ≤ 22) (hm : double.div W0 (fpw i) = some W) :
    Calls Tryd.prog 62 #[.int .u64 M, .int .i64 (-(i : Int)), .bool neg] w fun y w' => ((∃ v, y = .returned (.tuple #[.float .f64 v, .bool false])) ∨ y = .returned (.tuple #[.float .f64 W, .bool true])) ∧ w = w' := by
  have fi := hB.fi
  obtain ⟨F, o, _, f1, f2⟩ := hB.fp
  have f3 := f2 i (by omega)
  have mu := quoR W0 (fpw i) W w hm
  obtain ⟨p, hp⟩ : ∃ p, fpw i = p := ⟨_, rfl⟩
  rw [hp] at f3 mu
  clear hB f2 hm hp
  have h1 : ((M : Int) / 4503599627370496 != 0) = false := by simp; omega
  have k0 : ((i : Int) == 0) = false := by simp; omega
  have k00 : decide (0 < (i : Int)) = true := decide_eq_true (by omega)
  have k1 : decide ((i : Int) < 0) = false := decide_eq_false (by omega)
  have k2 : decide ((i : Int) ≤ 22) = true := decide_eq_true (by omega)
  cases neg
  · have hW' : W0 = r0 := by rw [hW]; simp [sgn]
    subst hW'
    clear hW
    go_enter Tryd.func62, Tryd.ntmps62
    go_wp2_with fail
    go_ret2
    exact ⟨Or.inr rfl, rfl⟩
  · have hW' : 9223372036854775808 + r0 = W0 := by rw [hW]; simp [sgn]
    rw [hW'] at hg
    have ng := negR r0 W0 w hg
    clear hW hW' hg
    go_enter Tryd.func62, Tryd.ntmps62
    go_wp2_with fail
    go_ret2
    exact ⟨Or.inr rfl, rfl⟩
theorem ex62_o (M r0 : Nat) (E : Int) (neg : Bool) (B : Nat) (w : World) (hB : Base2 B w) (hM : M < 4503599627370496) (hn : floatOfInt .f64 (M : Int) = r0) (hg : Op.negFloat .f64 r0 = 9223372036854775808 + r0)
    (hE : E < -22 ∨ 37 < E) :
    Calls Tryd.prog 62 #[.int .u64 M, .int .i64 E, .bool neg] w fun y w' => (∃ v, y = .returned (.tuple #[.float .f64 v, .bool false])) ∧ w = w' := by
  have fi := hB.fi
  clear hB
  have h1 : ((M : Int) / 4503599627370496 != 0) = false := by simp; omega
  have k0 : (E == 0) = false := by simp; omega
  have ng := negR r0 (9223372036854775808 + r0) w hg
  rcases hE with h | h
  · have k1 : decide (0 < E) = false := decide_eq_false (by omega)
    have k2 : decide (E < 0) = true := decide_eq_true (by omega)
    have k3 : decide (-22 ≤ E) = false := decide_eq_false (by omega)
    clear hg
    cases neg
    all_goals
      go_enter Tryd.func62, Tryd.ntmps62
      go_wp2_with fail
      go_ret2
      exact ⟨⟨_, rfl⟩, rfl⟩
  · have k1 : decide (0 < E) = true := decide_eq_true (by omega)
    have k2 : decide (E < 0) = false := decide_eq_false (by omega)
    have k3 : decide (E ≤ 37) = false := decide_eq_false (by omega)
    clear hg
    cases neg
    all_goals
      go_enter Tryd.func62, Tryd.ntmps62
      go_wp2_with fail
      go_ret2
      exact ⟨⟨_, rfl⟩, rfl⟩
end YtpefdgaijeefoaaDoor
end Go.Proofs

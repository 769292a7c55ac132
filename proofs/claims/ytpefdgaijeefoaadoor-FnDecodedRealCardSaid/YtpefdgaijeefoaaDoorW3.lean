/-
  PACKING: pack64 makes the word of a sign, a significand and an exponent. Conditions: the sizes that are named.
  By an AI agent. No person has read it.
-/
import Derived.Test.YtpefdgaijeefoaaDoorW2
namespace Go.Proofs
open Go.RowKit Go.Lib
namespace YtpefdgaijeefoaaDoor

theorem split_and (k a b s t : Nat) (hs : s < 2 ^ k) (ht : t < 2 ^ k) : (2 ^ k * a + s) &&& (2 ^ k * b + t) = 2 ^ k * (a &&& b) + (s &&& t) := by
  have h : s &&& t < 2 ^ k := Nat.and_lt_two_pow s ht
  apply Nat.eq_of_testBit_eq
  intro i
  rw [Nat.testBit_and, Nat.testBit_two_pow_mul_add _ hs, Nat.testBit_two_pow_mul_add _ ht, Nat.testBit_two_pow_mul_add _ h]
  split <;> simp [Nat.testBit_and]
theorem split_or (k a b s t : Nat) (hs : s < 2 ^ k) (ht : t < 2 ^ k) : (2 ^ k * a + s) ||| (2 ^ k * b + t) = 2 ^ k * (a ||| b) + (s ||| t) := by
  have h : s ||| t < 2 ^ k := Nat.or_lt_two_pow hs ht
  apply Nat.eq_of_testBit_eq
  intro i
  rw [Nat.testBit_or, Nat.testBit_two_pow_mul_add _ hs, Nat.testBit_two_pow_mul_add _ ht, Nat.testBit_two_pow_mul_add _ h]
  split <;> simp [Nat.testBit_or]

def sgn (neg : Bool) : Nat := if neg then 9223372036854775808 else 0
theorem sgn_cases (neg : Bool) : sgn neg = 9223372036854775808 ∨ sgn neg = 0 := by cases neg <;> simp [sgn]
/-- the bits that pack64 looks at, and what it makes. -/
theorem pack_test (neg : Bool) (r : Nat) (hr : r < 9007199254740992) : (sgn neg + r) &&& 4503599627370496 = r / 4503599627370496 * 4503599627370496 := by
  have h1 := split_and 52 (2048 * (sgn neg / 9223372036854775808) + r / 4503599627370496) 1 (r % 4503599627370496) 0 (by omega) (by omega)
  have e1 : 2 ^ 52 * (2048 * (sgn neg / 9223372036854775808) + r / 4503599627370496) + r % 4503599627370496 = sgn neg + r := by
    rcases sgn_cases neg with s | s <;> rw [s] <;> omega
  have e2 : 2 ^ 52 * 1 + 0 = 4503599627370496 := rfl
  rw [e1, e2] at h1
  rw [h1, Nat.and_one_is_mod, Nat.and_zero]
  rcases sgn_cases neg with s | s <;> rw [s] <;> omega
theorem pack_bits (neg : Bool) (r C : Nat) (hr : r < 9007199254740992) (hr1 : 4503599627370496 ≤ r) (hC : C < 2048) :
    ((sgn neg + r) &&& (18446744073709551615 - 4503599627370496)) ||| (C * 4503599627370496) = sgn neg + (r - 4503599627370496) + C * 4503599627370496 := by
  have h1 := split_and 52 (2048 * (sgn neg / 9223372036854775808) + 1) 4094 (r - 4503599627370496) 4503599627370495 (by omega) (by omega)
  have e1 : 2 ^ 52 * (2048 * (sgn neg / 9223372036854775808) + 1) + (r - 4503599627370496) = sgn neg + r := by
    rcases sgn_cases neg with s | s <;> rw [s] <;> omega
  have e2 : 2 ^ 52 * 4094 + 4503599627370495 = 18446744073709551615 - 4503599627370496 := rfl
  rw [e1, e2] at h1
  have e3 : (r - 4503599627370496) &&& 4503599627370495 = r - 4503599627370496 := Nat.and_two_pow_sub_one_of_lt_two_pow (n := 52) (by omega)
  have e4 : (2048 * (sgn neg / 9223372036854775808) + 1) &&& 4094 = 2048 * (sgn neg / 9223372036854775808) := by cases neg <;> decide +kernel
  rw [e3, e4] at h1
  rw [h1]
  have h2 := split_or 52 (2048 * (sgn neg / 9223372036854775808)) C (r - 4503599627370496) 0 (by omega) (by omega)
  have e5 : 2 ^ 52 * C + 0 = C * 4503599627370496 := by omega
  rw [e5] at h2
  rw [h2, Nat.or_zero]
  have e6 : (2048 * (sgn neg / 9223372036854775808)) ||| C = 2048 * (sgn neg / 9223372036854775808) + C := by
    cases neg
    · simp [sgn]
    · exact (Nat.two_pow_add_eq_or_of_lt (i := 11) hC 1).symm
  rw [e6]
  rcases sgn_cases neg with s | s <;> rw [s] <;> omega

theorem pack64_a (neg : Bool) (r : Nat) (e : Int) (w : World) (hr : r < 4503599627370496) :
    Calls Tryd.prog 72 #[.int .u64 ((sgn neg + r : Nat) : Int), .int .i64 e] w fun x w' => x = .returned (.tuple #[.float .f64 (sgn neg + r), .nilIface]) ∧ w = w' := by
  have e61 := ext61
  have hs := sgn_cases neg
  have T := u64_and_nat (sgn neg + r) 4503599627370496 (by omega) (by omega)
  rw [pack_test neg r (by omega), show r / 4503599627370496 * 4503599627370496 = 0 by omega] at T
  generalize sgn neg + r = v at *
  have T' : bits .and .u64 (v : Int) 4503599627370496 = 0 := T
  clear T hs
  go_enter Tryd.func72, Tryd.ntmps72
  go_wp2
  go_ret2
  exact ⟨rfl, rfl⟩
theorem pack64_b (neg : Bool) (r : Nat) (e : Int) (w : World) (hr1 : 4503599627370496 ≤ r) (hr : r < 9007199254740992) (he : -1074 ≤ e) (he2 : e ≤ 971) :
    Calls Tryd.prog 72 #[.int .u64 ((sgn neg + r : Nat) : Int), .int .i64 e] w fun x w' =>
      x = .returned (.tuple #[.float .f64 (sgn neg + ((e + 1074).toNat * 4503599627370496 + r)), .nilIface]) ∧ w = w' := by
  have e61 := ext61
  have hs := sgn_cases neg
  have T := u64_and_nat (sgn neg + r) 4503599627370496 (by omega) (by omega)
  rw [pack_test neg r (by omega), show r / 4503599627370496 * 4503599627370496 = 4503599627370496 by omega] at T
  obtain ⟨C, hC⟩ : ∃ C, C = (1075 + e).toNat := ⟨_, rfl⟩
  have P := pack_bits neg r C hr hr1 (by omega)
  have A := u64_andNot_nat (sgn neg + r) 4503599627370496 (by omega) (by omega)
  have O := u64_or_nat ((sgn neg + r) &&& (18446744073709551615 - 4503599627370496)) (C * 4503599627370496) (Nat.lt_of_le_of_lt Nat.and_le_left (by omega)) (by omega)
  rw [P] at O
  have hv : Hid (sgn neg + ((e + 1074).toNat * 4503599627370496 + r) = sgn neg + (r - 4503599627370496) + C * 4503599627370496) := by unfold Hid; omega
  have hC' : Hid ((1075 + e) * 4503599627370496 = ((C * 4503599627370496 : Nat) : Int)) := by unfold Hid; omega
  have T' : bits .and .u64 ((sgn neg + r : Nat) : Int) 4503599627370496 = 4503599627370496 := T
  generalize hb : sgn neg + (r - 4503599627370496) + C * 4503599627370496 = B at *
  generalize hg : sgn neg + r = v at *
  have HA := Lib.hid A
  have HO := Lib.hid O
  clear T hs P A O hb hC hg
  go_enter Tryd.func72, Tryd.ntmps72
  go_wp2
  go_ret2
  have A' : bits .andNot .u64 (v : Int) 4503599627370496 = _ := HA.out
  have key : (bits .or .u64 (bits .andNot .u64 (v : Int) 4503599627370496) ((1075 + e) * 4503599627370496)).toNat = sgn neg + ((e + 1074).toNat * 4503599627370496 + r) := by
    rw [A', hC'.out, HO.out, hv.out]; rfl
  refine ⟨?_, rfl⟩
  rw [← key]
  rfl

theorem len64_named (d b : Nat) (hd : d < 18446744073709551616) (hb : Go.Lib.bitLen d = b) (w : World) :
    Calls Tryd.prog 34 #[.int .u64 d] w fun e w' => e = .returned (.int .i64 b) ∧ w = w' := by
  refine (Tryd.bits_Len64 (d : Int) w (by omega) (by omega)).mono fun e w' ⟨a, c⟩ => ⟨?_, c.symm⟩
  rw [a, show ((d : Int)).toNat = d by omega, hb]

/-- prescale at a block of one's own. -/
theorem prescale_at (b : Nat) (e p lp : Int) (i : Nat) (w : World) (hi : i < 696) (hp : p = (i : Int) - 348) (he : -5000 ≤ e) (he2 : e ≤ 5000) (hl : -5000 ≤ lp) (hl2 : lp ≤ 5000)
    (g1 : w.cell? ⟨3, i * 2, none⟩ = some (.int .u64 (row i).1)) (g2 : w.cell? ⟨3, i * 2 + 1, none⟩ = some (.int .u64 (row i).2))
    (v0 v1 v2 : Value) (c0 : w.cell? ⟨b, 0, none⟩ = some v0) (c1 : w.cell? ⟨b, 1, none⟩ = some v1) (c2 : w.cell? ⟨b, 2, none⟩ = some v2)
    (f0 : w.frozen? ⟨b, 0, none⟩ = false) (f1 : w.frozen? ⟨b, 1, none⟩ = false) (f2 : w.frozen? ⟨b, 2, none⟩ = false) :
    Calls Tryd.prog 45 #[.pointer (some ⟨b, 0, none⟩), .int .i64 e, .int .i64 p, .int .i64 lp] w fun x w' => x = .returned (.tuple #[])
      ∧ Below b w w' ∧ w'.heap.size = w.heap.size ∧ w'.cell? ⟨b, 0, none⟩ = some (.int .u64 (row i).1) ∧ w'.cell? ⟨b, 1, none⟩ = some (.int .u64 (row i).2)
      ∧ w'.cell? ⟨b, 2, none⟩ = some (.int .i64 (-(e + lp + 3))) := by
  refine (prescale_any b e p lp i w hi hp he he2 hl hl2 g1 g2 ⟨_, c0⟩ ⟨_, c1⟩ ⟨_, c2⟩ f0 f1 f2).mono ?_
  rintro x w' ⟨rfl, rfl⟩
  refine ⟨rfl, Below.setCell (p := ⟨b, 2, none⟩) (Below.setCell (p := ⟨b, 1, none⟩) (Below.setCell (p := ⟨b, 0, none⟩) (Below.refl b w) (Nat.le_refl b) _) (Nat.le_refl b) _) (Nat.le_refl b) _, by simp, ?_, ?_, ?_⟩
  · go_simp
  · go_simp
  · go_simp
theorem prescale_new (e p lp : Int) (i : Nat) (w : World) (T : TypeId) (hi : i < 696) (hp : p = (i : Int) - 348) (he : -5000 ≤ e) (he2 : e ≤ 5000) (hl : -5000 ≤ lp) (hl2 : lp ≤ 5000)
    (g1 : w.cell? ⟨3, i * 2, none⟩ = some (.int .u64 (row i).1)) (g2 : w.cell? ⟨3, i * 2 + 1, none⟩ = some (.int .u64 (row i).2)) (hw : 5 < w.heap.size) :
    Calls Tryd.prog 45 #[.pointer (some ⟨w.heap.size, 0, none⟩), .int .i64 e, .int .i64 p, .int .i64 lp] (w.alloc (.cells #[.int .u64 0, .int .u64 0, .int .i64 0] T (0, 0))) fun x w' => x = .returned (.tuple #[])
      ∧ Below w.heap.size w w' ∧ w'.heap.size = w.heap.size + 1 ∧ w'.cell? ⟨w.heap.size, 0, none⟩ = some (.int .u64 (row i).1) ∧ w'.cell? ⟨w.heap.size, 1, none⟩ = some (.int .u64 (row i).2)
      ∧ w'.cell? ⟨w.heap.size, 2, none⟩ = some (.int .i64 (-(e + lp + 3))) := by
  have k : (3 : Nat) < w.heap.size := by omega
  refine (prescale_at w.heap.size e p lp i _ hi hp he he2 hl hl2 (by go_simp) (by go_simp) (.int .u64 0) (.int .u64 0) (.int .i64 0) (by go_simp) (by go_simp) (by go_simp) (by go_simp) (by go_simp) (by go_simp)).mono ?_
  rintro x w' ⟨rfl, hB, hz, d0, d1, d2⟩
  exact ⟨rfl, ((Below.refl _ _).alloc (Nat.le_refl _) _).trans hB, by rw [hz]; simp, d0, d1, d2⟩
theorem pack64_any (neg : Bool) (r : Nat) (e : Int) (w : World) (hr : r < 9007199254740992) (he : -1074 ≤ e) (he2 : e ≤ 971) (hn : 4503599627370496 ≤ r ∨ e = -1074) :
    Calls Tryd.prog 72 #[.int .u64 ((sgn neg + r : Nat) : Int), .int .i64 e] w fun x w' =>
      x = .returned (.tuple #[.float .f64 (sgn neg + ((e + 1074).toNat * 4503599627370496 + r)), .nilIface]) ∧ w = w' := by
  by_cases h : r < 4503599627370496
  · have he' : e = -1074 := by omega
    subst he'
    refine (pack64_a neg r _ w h).mono ?_
    rintro x w' ⟨rfl, rfl⟩
    exact ⟨by simp, rfl⟩
  · exact pack64_b neg r e w (by omega) hr he he2

theorem pack64_w (neg : Bool) (r : Nat) (e q : Int) (w : World) (hr : r < 9007199254740992) (hq : q = e) (he : -1074 ≤ q) (he2 : q ≤ 971) (hn : 4503599627370496 ≤ r ∨ q = -1074) :
    Calls Tryd.prog 72 #[.int .u64 ((sgn neg : Int) + (r : Int)), .int .i64 e] w fun x w' =>
      x = .returned (.tuple #[.float .f64 (sgn neg + ((q + 1074).toNat * 4503599627370496 + r)), .nilIface]) ∧ w = w' := by
  subst hq
  have := pack64_any neg r q w hr he he2 hn
  rw [Int.natCast_add] at this
  exact this

/-- shifting an unrounded value by one or by nought, as parseFloat64 does. -/
def shf (u : Nat) : Nat := if 36028797018963966 ≤ u then u / 2 ||| u % 2 else u
theorem or_mod2 (u : Nat) : u ||| u % 2 = u := by
  rcases Nat.mod_two_eq_zero_or_one u with h | h
  · rw [h, Nat.or_zero]
  · rw [h, or1]; omega
theorem and1 (u : Nat) (h : u < 18446744073709551616) : bits .and .u64 (u : Int) 1 = ((u % 2 : Nat) : Int) := by
  have := u64_and_nat u 1 h (by omega)
  rw [Nat.and_one_is_mod] at this
  exact this
theorem sgn_or (neg : Bool) (r : Nat) (h : r < 9007199254740992) : bits .or .u64 ((sgn neg : Nat) : Int) (r : Int) = ((sgn neg + r : Nat) : Int) := by
  have := u64_or_nat (sgn neg) r (by have := sgn_cases neg; omega) (by omega)
  rw [this]
  cases neg
  · simp [sgn]
  · have := Nat.two_pow_add_eq_or_of_lt (i := 63) (show r < 2 ^ 63 by omega) 1
    simp only [sgn, if_true]
    have e : (2 : Nat) ^ 63 * 1 = 9223372036854775808 := rfl
    rw [e] at this
    rw [this]

theorem parse_any (d b x s u r i : Nat) (p lp pe t q : Int) (neg : Bool) (w : World) (hb0 : 1 ≤ b) (hb : b ≤ 64) (hd : d < 18446744073709551616) (hbl : Go.Lib.bitLen d = b)
    (hi : i < 696) (hp : p = (i : Int) - 348) (hlp : lpw p = lp) (hl : -1160 ≤ lp) (hl2 : lp ≤ 1160) (hpe : min 1074 (53 - (b : Int) - lp) = pe)
    (hs : (s : Int) = -(pe - (64 - (b : Int)) + lp + 3)) (hs2 : s < 64) (hx : d * 2 ^ (64 - b) = x) (hx1 : x < 18446744073709551616) (hx2 : 9223372036854775808 ≤ x)
    (g1 : w.cell? ⟨3, i * 2, none⟩ = some (.int .u64 (row i).1)) (g2 : w.cell? ⟨3, i * 2 + 1, none⟩ = some (.int .u64 (row i).2)) (hw : 5 < w.heap.size)
    (hu : us x (row i).1 (row i).2 s = u) (hu1 : u < 18446744073709551600) (hr : rnd (shf u) = r) (hr1 : r < 9007199254740992)
    (ht : t = if 36028797018963966 ≤ u then 1 else 0) (hq : q = -(pe - t)) (hq1 : -1074 ≤ q) (hq2 : q ≤ 971) (hn : 4503599627370496 ≤ r ∨ q = -1074) :
    Calls Tryd.prog 63 #[.int .u64 d, .int .i64 p, .int .u64 (sgn neg)] w fun y w' => y = .returned (.tuple #[.float .f64 (sgn neg + ((q + 1074).toNat * 4503599627370496 + r)), .nilIface]) ∧ Below w.heap.size w w' := by
  have r1 := (row_facts i hi).1
  have r2 := (row_facts i hi).2.1
  have r3 := (row_facts i hi).2.2.1
  have X : IntKind.u64.wrap ((d : Int) * 2 ^ (64 - b)) = (x : Int) := by
    rw [show (d : Int) * 2 ^ (64 - b) = ((d * 2 ^ (64 - b) : Nat) : Int) by push_cast; rfl, hx]
    exact u64_wrap _ (by omega) (by omega)
  have hxr : 18446744073709551616 ≤ x * (row i).1 := by
    have := Nat.mul_le_mul hx2 r1
    omega
  have hpe1 : pe ≤ 1074 := by omega
  have hpe2 : -1300 ≤ pe := by omega
  have hp1 : -348 ≤ p := by omega
  have hp2 : p < 348 := by omega
  have A1 := and1 u (by omega)
  have hsh : shf u < 18446744073709551600 := by
    have : u / 2 ||| u % 2 ≤ u := by
      rcases Nat.mod_two_eq_zero_or_one u with h | h
      · rw [h, Nat.or_zero]; omega
      · rw [h, or1]; omega
    unfold shf; split <;> omega
  have SO := sgn_or neg r hr1
  have HPE := Lib.hid hpe
  have HLP := Lib.hid hlp
  have HP := Lib.hid hp
  have HBL := Lib.hid hbl
  have HS := Lib.hid hs
  have HU := Lib.hid hu
  have HR := Lib.hid hr
  have HQ := Lib.hid hq
  have HN := Lib.hid hn
  generalize hRH : (row i).1 = RH at *
  generalize hRL : (row i).2 = RL at *
  clear hpe hlp hp hbl hs hu hr hq hx hn
  by_cases c : 36028797018963966 ≤ u
  · have hu' : Hid (shf u = u / 2 ||| u % 2) := by unfold shf Hid; rw [if_pos c]
    rw [if_pos c] at ht
    have O1 : bits .or .u64 ((u : Int) / 2) ((u : Int) % 2) = ((shf u : Nat) : Int) := by
      rw [hu'.out]; exact u64_or_nat (u / 2) (u % 2) (by omega) (by omega)
    subst ht
    generalize hv : shf u = v at *
    clear hu' hv
    go_enter Tryd.func63, Tryd.ntmps63
    go_wp2_with fail
    ((with_reducible refine (len64_named d b hd HBL.out _).mono ?_); rintro e w' ⟨rfl, rfl⟩)
    go_wp2_with fail
    ((with_reducible refine (log2Pow10_any p _ (by omega) (by omega)).mono ?_); rintro e w' ⟨rfl, rfl⟩)
    rw [HLP.out]
    go_wp2_with fail
    rw [HPE.out]
    ((with_reducible refine (prescale_new (pe - (64 - (b : Int))) p lp i w _ hi HP.out (by omega) (by omega) (by omega) (by omega) (by rw [hRH]; exact g1) (by rw [hRL]; exact g2) hw).mono ?_); rintro e w1 ⟨rfl, hB, hz, d0, d1, d2⟩)
    rw [hRH] at d0
    rw [hRL] at d1
    rw [← HS.out] at d2
    go_wp2_with fail
    ((with_reducible refine (uscale_any x w.heap.size RH RL s w1 hx1 r2 r3 hs2 d0 d1 d2 hxr).mono ?_); rintro e w' ⟨rfl, n1, rfl⟩)
    rw [HU.out]
    go_wp2_with (first
      | (go_at_call 71; refine (unmin_any _).mono ?_; rintro e w' ⟨rfl, rfl⟩)
      | (go_at_call 53; refine (bool2i_any _ _).mono ?_; rintro e w' ⟨rfl, rfl⟩))
    ((with_reducible refine (round_any v _ hsh).mono ?_); rintro e w' ⟨rfl, rfl⟩)
    rw [HR.out]
    go_wp2_with fail
    ((with_reducible refine (pack64_w neg r _ q _ hr1 HQ.out hq1 hq2 HN.out).mono ?_); rintro e w' ⟨rfl, rfl⟩)
    go_wp2_with fail
    go_ret2
    exact ⟨rfl, below_drewN hB _⟩
  · have hu' : Hid (shf u = u) := by unfold shf Hid; rw [if_neg c]
    rw [if_neg c] at ht
    have O1 : bits .or .u64 (u : Int) ((u : Int) % 2) = ((shf u : Nat) : Int) := by
      rw [hu'.out]
      have := u64_or_nat u (u % 2) (by omega) (by omega)
      rw [or_mod2] at this
      exact this
    subst ht
    have HQ : Hid (q = -pe) := by have := HQ.out; unfold Hid; omega
    generalize hv : shf u = v at *
    clear hu' hv
    go_enter Tryd.func63, Tryd.ntmps63
    go_wp2_with fail
    ((with_reducible refine (len64_named d b hd HBL.out _).mono ?_); rintro e w' ⟨rfl, rfl⟩)
    go_wp2_with fail
    ((with_reducible refine (log2Pow10_any p _ (by omega) (by omega)).mono ?_); rintro e w' ⟨rfl, rfl⟩)
    rw [HLP.out]
    go_wp2_with fail
    rw [HPE.out]
    ((with_reducible refine (prescale_new (pe - (64 - (b : Int))) p lp i w _ hi HP.out (by omega) (by omega) (by omega) (by omega) (by rw [hRH]; exact g1) (by rw [hRL]; exact g2) hw).mono ?_); rintro e w1 ⟨rfl, hB, hz, d0, d1, d2⟩)
    rw [hRH] at d0
    rw [hRL] at d1
    rw [← HS.out] at d2
    go_wp2_with fail
    ((with_reducible refine (uscale_any x w.heap.size RH RL s w1 hx1 r2 r3 hs2 d0 d1 d2 hxr).mono ?_); rintro e w' ⟨rfl, n1, rfl⟩)
    rw [HU.out]
    go_wp2_with (first
      | (go_at_call 71; refine (unmin_any _).mono ?_; rintro e w' ⟨rfl, rfl⟩)
      | (go_at_call 53; refine (bool2i_any _ _).mono ?_; rintro e w' ⟨rfl, rfl⟩))
    ((with_reducible refine (round_any v _ hsh).mono ?_); rintro e w' ⟨rfl, rfl⟩)
    rw [HR.out]
    go_wp2_with fail
    ((with_reducible refine (pack64_w neg r _ q _ hr1 HQ.out hq1 hq2 HN.out).mono ?_); rintro e w' ⟨rfl, rfl⟩)
    go_wp2_with fail
    go_ret2
    exact ⟨rfl, below_drewN hB _⟩
end YtpefdgaijeefoaaDoor
end Go.Proofs

/-
  ftoa64 AT A DOUBLE, joined with the numbers: the text of a decimal that lies in the double's interval. Conditions: the tables read as the library's text lays them.
  By an AI agent. No person has read it.
-/
import Derived.Test.YtpefdgaijeefoaaDoorW11
namespace Go.Proofs
open Go.RowKit Go.Lib
namespace YtpefdgaijeefoaaDoor

theorem i64_and2047 (n : Int) : bits .and .i64 n 2047 = n % 2048 := by
  have h127 : (BitVec.ofInt 64 2047).toNat = 2 ^ 11 - 1 := by decide
  have key : (BitVec.ofInt 64 n &&& BitVec.ofInt 64 2047).toNat = (n % ((2 ^ 64 : Nat) : Int)).toNat % 2 ^ 11 := by
    rw [BitVec.toNat_and, BitVec.toNat_ofInt, h127, Nat.and_two_pow_sub_one_eq_mod]
  show IntKind.i64.wrap ((BitVec.ofInt 64 n &&& BitVec.ofInt 64 2047).toNat : Nat) = n % 2048
  rw [key, IntKind.wrap_i64]
  omega
theorem low52 (x : Nat) (hx : x < 18446744073709551616) : bits .and .u64 (x : Int) 4503599627370495 = ((x % 4503599627370496 : Nat) : Int) := by
  have := u64_and_nat x 4503599627370495 hx (by omega)
  have e : x &&& 4503599627370495 = x % 4503599627370496 := Nat.and_two_pow_sub_one_eq_mod x 52
  rw [e] at this
  exact this
theorem or52 (F : Nat) (hF : F < 4503599627370496) : bits .or .u64 (F : Int) 4503599627370496 = ((F + 4503599627370496 : Nat) : Int) := by
  have := u64_or_nat F 4503599627370496 (by omega) (by omega)
  have e : F ||| 4503599627370496 = F + 4503599627370496 := by
    rw [Nat.or_comm, Nat.add_comm]
    exact (Nat.two_pow_add_eq_or_of_lt (i := 52) hF 1).symm
  rw [e] at this
  exact this
theorem sgn_ne (x r : Nat) (neg : Bool) (h : x = sgn neg + r) (hr : r < 9223372036854775808) : ((x : Int) / 9223372036854775808 != 0) = neg := by
  have e : (x : Int) / 9223372036854775808 = if neg then 1 else 0 := by
    cases neg
    · have : x = r := by rw [h]; simp [sgn]
      simp; omega
    · have : x = 9223372036854775808 + r := by rw [h]; simp [sgn]
      simp; omega
  rw [e]
  cases neg <;> rfl

/-- what a printing of a number has made: the digits' number M with exponent p, in the double's interval; the text's digits are j of them. -/
structure Made (mant : Nat) (q : Int) (d : Nat) (p : Int) (nd j : Nat) : Prop where
  j1 : 1 ≤ j
  j2 : j ≤ nd
  nd17 : nd ≤ 17
  dpos : 0 < d
  dlt : d < 10 ^ nd
  dge : 10 ^ (nd - 1) ≤ d
  val : dv ((digs d nd).take j) * 10 ^ (nd - j) = d
  p1 : -324 ≤ p
  p2 : p ≤ 300
  inI : InI mant q (d * T10 p)

theorem nd_le (d n : Nat) (hn : 1 ≤ n) (h : d < 10 ^ n) : Lib.nDigits d ≤ n := by
  induction n generalizing d with
  | zero => omega
  | succ n ih =>
    by_cases h10 : d < 10
    · rw [nDigits_small h10]; omega
    · rw [nDigits_big h10]
      have hn1 : 1 ≤ n := by
        rcases Nat.eq_zero_or_pos n with r | r
        · subst r; simp at h; omega
        · exact r
      have := ih (d / 10) hn1 (by rw [Nat.pow_succ] at h; omega)
      omega
theorem nd_ge (d : Nat) (h : 0 < d) : 10 ^ (Lib.nDigits d - 1) ≤ d := by
  induction d using Nat.strongRecOn with
  | _ d ih =>
    by_cases h10 : d < 10
    · rw [nDigits_small h10]; exact h
    · rw [nDigits_big h10]
      have := ih (d / 10) (by omega) (by omega)
      have e := nDigits_pos (d / 10)
      rw [show Lib.nDigits (d / 10) + 1 - 1 = (Lib.nDigits (d / 10) - 1) + 1 by omega, Nat.pow_succ]
      omega

theorem ftoa_right {mant : Nat} {q : Int} (hd : Dbl mant q) (neg : Bool) (B D : Nat) (w : World) (hB : Base B w) (hD : B ≤ D) (hR : Row w D 0 []) :
    Calls Tryd.prog 26 #[.slice (some ⟨D, 0, none⟩) 0 24, .float .f64 (sgn neg + rung mant q), .int .u8 103, .int .i64 (-1)] w fun e w' =>
      ∃ (n j nd d : Nat) (p : Int), Made mant q d p nd j ∧ e = .returned (.slice (some ⟨D, 0, none⟩) n 24) ∧ Row w' D n (txt neg j (digs d nd) (nd + p)) ∧ Below B w w' := by
  obtain ⟨m1, m2, m3, m4⟩ := mant_bits hd
  obtain ⟨z, hz⟩ : ∃ z, z = 64 - Go.Lib.bitLen mant := ⟨_, rfl⟩
  have hg := sf_good hd z hz
  obtain ⟨d, hdd⟩ : ∃ d, (sfd mant q z).1 = d := ⟨_, rfl⟩
  obtain ⟨p, hpp⟩ : ∃ p, (sfd mant q z).2 = p := ⟨_, rfl⟩
  obtain ⟨mm, hmm⟩ : ∃ mm, mant * 2 ^ z = mm := ⟨_, rfl⟩
  have hs := fun e he w1 ht => short_right hd z hz mm hmm.symm e he w1 ht
  rw [hdd, hpp] at hs
  obtain ⟨g1, g2, g3, g4, g5⟩ := hg
  rw [hdd] at g1 g2 g5
  rw [hpp] at g3 g4 g5
  have hmm2 : mm < 18446744073709551616 := by
    have := Nat.mul_lt_mul_of_pos_right m4 (Nat.two_pow_pos z)
    rw [← Nat.pow_add, show Go.Lib.bitLen mant + z = 64 by omega, hmm] at this
    exact this
  have n1 := nDigits_pos d
  have n2 := nd_le d 17 (by omega) (by omega)
  have n3 := lt_pow_nDigits d
  have n4 := nd_ge d g1
  have hlo := hd.lo
  have hhi := hd.hi
  have hlt := hd.lt
  have hpos := hd.pos
  have hr : rung mant q < 9223372036854775808 := by unfold rung; omega
  have hr2 : rung mant q = (q + 1074).toNat * 4503599627370496 + mant := rfl
  obtain ⟨x, hx⟩ : ∃ x, x = sgn neg + rung mant q := ⟨_, rfl⟩
  have T1 := sgn_ne x (rung mant q) neg hx hr
  have hx64 : x < 18446744073709551616 := by rcases sgn_cases neg with s | s <;> omega
  obtain ⟨y, hy⟩ : ∃ y, x / 4503599627370496 = y := ⟨_, rfl⟩
  have Ty : (x : Int) / 4503599627370496 = y := by omega
  have low := low52 x hx64
  rw [← hx]
  by_cases hn : 4503599627370496 ≤ mant
  · obtain ⟨E, hE⟩ : ∃ E, (q + 1075).toNat = E := ⟨_, rfl⟩
    have hy2 : y % 2048 = E := by rcases sgn_cases neg with s | s <;> omega
    have T2 : bits .and .i64 (y : Int) 2047 = E := by rw [i64_and2047]; omega
    have hF : x % 4503599627370496 = mant - 4503599627370496 := by rcases sgn_cases neg with s | s <;> omega
    rw [hF] at low
    have T4 := or52 (mant - 4503599627370496) (by omega)
    rw [show mant - 4503599627370496 + 4503599627370496 = mant by omega] at T4
    refine (ftoa_n B D x y E (mant - 4503599627370496) mant (Go.Lib.bitLen mant) z mm d (Lib.nDigits d) p neg w hx64 (by omega) (by omega) T1 Ty (by omega) T2 low T4 hpos (by omega) rfl (by omega) m1 m2 hmm hmm2
      (fun w1 ht => hs _ (by omega) w1 ht) g1 rfl n1 n2 n3 (by omega) (by omega) hB hD hR).mono ?_
    rintro e w' ⟨n, j, j1, j2, v, rfl, r, b⟩
    exact ⟨n, j, _, d, p, ⟨j1, j2, n2, g1, n3, n4, v, g3, g4, g5⟩, rfl, r, b⟩
  · have hq : q = -1074 := by have := hd.norm; omega
    have hr3 : rung mant q = mant := by rw [hr2, hq]; simp
    have hy2 : y % 2048 = 0 := by rcases sgn_cases neg with s | s <;> omega
    have T2 : bits .and .i64 (y : Int) 2047 = 0 := by rw [i64_and2047]; omega
    have hF : x % 4503599627370496 = mant := by rcases sgn_cases neg with s | s <;> omega
    rw [hF] at low
    refine (ftoa_s B D x y mant (Go.Lib.bitLen mant) z mm d (Lib.nDigits d) p neg w hx64 T1 Ty (by omega) T2 low hpos (by omega) rfl (by omega) m1 m2 hmm hmm2
      (fun w1 ht => hs _ (by omega) w1 ht) g1 rfl n1 n2 n3 (by omega) (by omega) hB hD hR).mono ?_
    rintro e w' ⟨n, j, j1, j2, v, rfl, r, b⟩
    exact ⟨n, j, _, d, p, ⟨j1, j2, n2, g1, n3, n4, v, g3, g4, g5⟩, rfl, r, b⟩

theorem ftoa_zero (neg : Bool) (B D : Nat) (w : World) (hB : Base B w) (hD : B ≤ D) (hR : Row w D 0 []) :
    Calls Tryd.prog 26 #[.slice (some ⟨D, 0, none⟩) 0 24, .float .f64 (sgn neg), .int .u8 103, .int .i64 (-1)] w fun e w' =>
      ∃ n : Nat, e = .returned (.slice (some ⟨D, 0, none⟩) n 24) ∧ Row w' D n (sgF neg ++ [48]) ∧ Below B w w' := by
  obtain ⟨x, hx⟩ : ∃ x, x = sgn neg := ⟨_, rfl⟩
  have hx64 : x < 18446744073709551616 := by rcases sgn_cases neg with s | s <;> omega
  have low := low52 x hx64
  rw [← hx]
  have hF : x % 4503599627370496 = 0 := by rcases sgn_cases neg with s | s <;> omega
  rw [hF] at low
  obtain ⟨y, hy⟩ : ∃ y, x / 4503599627370496 = y := ⟨_, rfl⟩
  exact ftoa_z B D x y neg w hx64 (sgn_ne x 0 neg (by omega) (by omega)) (by omega) (by omega) (by rw [i64_and2047]; rcases sgn_cases neg with s | s <;> omega) low hB hD hR
end YtpefdgaijeefoaaDoor
end Go.Proofs

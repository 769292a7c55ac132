/-
  THE LAW's OWN FUNCTION AT EVERY WORD: it answers true. Conditions: the tables read as the library's text lays them.
  By an AI agent. No person has read it.
-/
import Derived.Test.YtpefdgaijeefoaaDoorW21
import Derived.Test.YtpefdgaijeefoaaDoorW23
namespace Go.Proofs
open Go.RowKit Go.Lib Ieee
namespace YtpefdgaijeefoaaDoor

theorem pf_of (s : ByteArray) (N M : Nat) (E : Int) (neg : Bool) (v : Nat) (hR : Reads s N M E neg)
    (h : ∀ B w, Base2 B w → Calls Tryd.prog 55 #[.string s] w fun y w' => y = .returned (.tuple #[.float .f64 v, .int .i64 N, .nilIface]) ∧ Below B w w') : Pf s v := fun B w hB =>
  at23 s v B w (at27 s v N B w hR.size (at43 s v N B w (h B w hB)))

theorem pf_num {mant : Nat} {q : Int} (hd : Dbl mant q) {d nd j : Nat} {p : Int} (m : Made mant q d p nd j) (neg : Bool) : Pf (strOfNums (txt neg j (digs d nd) (nd + p))) (sgn neg + rung mant q) := by
  obtain ⟨M, E, hR, h0, hM, hE, hI⟩ := txt_reads m neg
  exact pf_of _ _ M E neg _ hR (fun B w hB => at55 hd _ _ M E neg B w hB hR h0 hM hE hI)
theorem pf_zero (neg : Bool) : Pf (strOfNums (sgF neg ++ [48])) (sgn neg) := by
  have hs : scan [48] = ⟨0, false, true, 0, -1⟩ := by simp [scan, stp]
  have h48 : Dg [48] := fun x hx => by simp at hx; omega
  have hR := reads_plain neg [48] h48.sm (by simp) (by simp) (Mant.dig h48) (by rw [hs]; show 0 ≤ 18; omega) (by rw [hs]) (fun _ h => by simp at h) (by show (48 : Int) ≤ 48; omega) (by show (48 : Int) ≤ 57; omega) 0 (by rw [hs]; simp)
  rw [hs] at hR
  exact pf_of _ _ 0 0 neg _ hR (fun B w hB => at55_z _ _ neg B w hB hR)

theorem read_nan (x : Nat) (h : 9218868437227405312 < x % 9223372036854775808) : ∃ a b, double.read x = .nan a b := by
  have e1 : double.signWeight = 9223372036854775808 := by decide +kernel
  have e2 : double.binade = 4503599627370496 := by decide +kernel
  have e3 : double.infRung = 9218868437227405312 := by decide +kernel
  unfold Format.read
  simp only [e1, e2, e3]
  rw [if_neg (by omega), if_neg (by omega), if_neg (by omega)]
  exact ⟨_, _, rfl⟩
theorem read_inf : double.read 9218868437227405312 = .infinity false := by decide +kernel
theorem read_max : double.read 9218868437227405311 = .number false 9007199254740991 971 := by decide +kernel
theorem fin_lt (x : Nat) (hf : fin x = true) : x % 9223372036854775808 < 9218868437227405312 := by
  unfold fin at hf
  simp only [Bool.and_eq_true, Bool.not_eq_true', bne_eq_false_iff_eq] at hf
  obtain ⟨h1, h2⟩ := hf
  refine Decidable.byContradiction fun g => ?_
  rcases Nat.lt_or_ge 9218868437227405312 (x % 9223372036854775808) with c | c
  · obtain ⟨a, b, e⟩ := read_nan x c
    have : double.order x x = none := by
      unfold Format.order
      rw [e]; rfl
    have h1' : double.order x x = some .eq := h1
    rw [this] at h1'
    cases h1'
  · have e : x % 9223372036854775808 = 9218868437227405312 := by omega
    rw [e] at h2
    have h2' : (double.order 9218868437227405312 9218868437227405311 == some .gt) = false := h2
    unfold Format.order at h2'
    rw [read_inf, read_max] at h2'
    cases h2'

theorem split_word (x : Nat) (hx : x < 18446744073709551616) (hf : fin x = true) : ∃ neg, x = sgn neg ∨ ∃ mant q, Dbl mant q ∧ x = sgn neg + rung mant q := by
  have h := fin_lt x hf
  obtain ⟨r, hr⟩ : ∃ r, x % 9223372036854775808 = r := ⟨_, rfl⟩
  rw [hr] at h
  have key : ∃ neg, x = sgn neg + r := by
    by_cases c : 9223372036854775808 ≤ x
    · exact ⟨true, by simp [sgn]; omega⟩
    · exact ⟨false, by simp [sgn]; omega⟩
  obtain ⟨neg, hn⟩ := key
  refine ⟨neg, ?_⟩
  rcases Nat.eq_zero_or_pos r with h0 | h0
  · left; omega
  · right
    by_cases hs : r < 4503599627370496
    · refine ⟨r, -1074, ⟨h0, by omega, by omega, by omega, Or.inr rfl⟩, ?_⟩
      rw [hn]
      unfold rung
      simp
    · refine ⟨r % 4503599627370496 + 4503599627370496, (r / 4503599627370496 : Nat) - 1075, ⟨by omega, by omega, by omega, by omega, Or.inl (by omega)⟩, ?_⟩
      rw [hn]
      unfold rung
      omega

theorem law_all (x B : Nat) (w : World) (hB : Base2 B w) (hx : x < 18446744073709551616) :
    Calls Tryd.prog 3 #[.float .f64 x] w fun e w' => e = .returned (.bool true) ∧ Below B w w' := by
  by_cases hf : fin x = true
  · obtain ⟨neg, c⟩ := split_word x hx hf
    rcases c with c | ⟨mant, q, hd, c⟩
    · refine law_fin x B (fun L => L = sgF neg ++ [48]) w hB hx hf ?_ ?_
      · intro D w1 h1 h2 h3
        rw [c]
        refine (ftoa_zero neg B D w1 h1 h2 h3).mono ?_
        rintro e w' ⟨n, rfl, r, b⟩
        exact ⟨n, _, rfl, rfl, r, b⟩
      · rintro L rfl
        rw [c]
        exact pf_zero neg
    · refine law_fin x B (fun L => ∃ d nd j p, Made mant q d p nd j ∧ L = txt neg j (digs d nd) (nd + p)) w hB hx hf ?_ ?_
      · intro D w1 h1 h2 h3
        rw [c]
        refine (ftoa_right hd neg B D w1 h1 h2 h3).mono ?_
        rintro e w' ⟨n, j, nd, d, p, m, rfl, r, b⟩
        exact ⟨n, _, ⟨d, nd, j, p, m, rfl⟩, rfl, r, b⟩
      · rintro L ⟨d, nd, j, p, m, rfl⟩
        rw [c]
        exact pf_num hd m neg
  · refine (law_nan x w hx (by simpa using hf)).mono ?_
    rintro e w' ⟨rfl, b⟩
    exact ⟨rfl, b.mono hB.base.sz⟩
end YtpefdgaijeefoaaDoor
end Go.Proofs

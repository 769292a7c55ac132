/-
  EVERY TEXT THAT fmtEFG MAKES OF A DOUBLE IS READ AS A DECIMAL IN THE DOUBLE's INTERVAL. No condition.
  By an AI agent. No person has read it.
-/
import Derived.Test.YtpefdgaijeefoaaDoorW22
namespace Go.Proofs
open Go.RowKit Go.Lib
namespace YtpefdgaijeefoaaDoor

theorem digs_dg (d n : Nat) : Dg (digs d n) := fun c hc => by
  unfold digs at hc
  obtain ⟨j, _, rfl⟩ := List.mem_map.1 hc
  have := Nat.mod_lt (d / 10 ^ (n - 1 - j)) (show 10 > 0 by decide)
  omega
theorem Dg.take {A : List Int} (a : Dg A) (k : Nat) : Dg (A.take k) := fun c hc => a c (List.mem_of_mem_take hc)
theorem Dg.drop {A : List Int} (a : Dg A) (k : Nat) : Dg (A.drop k) := fun c hc => a c (List.mem_of_mem_drop hc)
theorem expL_dg (x : Nat) (h : x < 1000) : Dg (expL x) ∧ 1 ≤ (expL x).length ∧ (expL x).length ≤ 3 ∧ dv (expL x) = x := by
  unfold expL
  split
  · refine ⟨fun c hc => ?_, by simp, by simp, ?_⟩
    · simp at hc; omega
    · simp [dv]
  · split
    · refine ⟨fun c hc => ?_, by simp, by simp, ?_⟩
      · simp at hc; omega
      · simp [dv]; omega
    · refine ⟨fun c hc => ?_, by simp, by simp, ?_⟩
      · simp at hc; omega
      · simp [dv]; omega

theorem txt_reads {mant : Nat} {q : Int} {d nd j : Nat} {p : Int} (m : Made mant q d p nd j) (neg : Bool) :
    ∃ M E, Reads (strOfNums (txt neg j (digs d nd) (nd + p))) (txt neg j (digs d nd) (nd + p)).length M E neg ∧ 0 < M ∧ M < 144115188075855872 ∧ -328 ≤ E ∧ InI mant q (M * T10 E) := by
  obtain ⟨j1, j2, n17, dpos, dlt, dge, val, p1, p2, inI⟩ := m
  obtain ⟨T, hT⟩ : ∃ T, (digs d nd).take j = T := ⟨_, rfl⟩
  have hTl : T.length = j := by rw [← hT, List.length_take, digs_len]; omega
  have hTd : Dg T := by rw [← hT]; exact (digs_dg d nd).take j
  obtain ⟨c0, hc0⟩ : ∃ c, (digs d nd).getD 0 0 = c := ⟨_, rfl⟩
  have hc : 49 ≤ c0 ∧ c0 ≤ 57 := by
    rw [← hc0, digs_get d nd 0 (by omega), Nat.sub_zero]
    have a : 1 ≤ d / 10 ^ (nd - 1) := (Nat.le_div_iff_mul_le (Nat.pow_pos (by decide))).2 (by omega)
    have b : d / 10 ^ (nd - 1) < 10 := by
      rw [Nat.div_lt_iff_lt_mul (Nat.pow_pos (by decide)), Nat.mul_comm, ← Nat.pow_succ, show (nd - 1).succ = nd by omega]
      exact dlt
    omega
  have hT0 : T.getD 0 0 = c0 := by
    rw [← hc0, ← hT]
    simp only [List.getD]
    rw [List.getElem?_take, if_pos (by omega)]
  rw [hT] at val
  have hV0 : 0 < dv T := by
    rcases Nat.eq_zero_or_pos (dv T) with h | h
    · rw [h] at val; omega
    · exact h
  have hVd : dv T ≤ d := by
    rw [← val]; exact Nat.le_mul_of_pos_right _ (Nat.pow_pos (by decide))
  have hd17 : d < 144115188075855872 := by
    have := Nat.pow_le_pow_right (show 10 > 0 by decide) n17
    omega
  have hI : ∀ E : Int, E = nd + p - j → InI mant q (dv T * T10 E) := fun E hE => by
    have := T10_nat p (by omega) (nd - j)
    rw [show p + ((nd - j : Nat) : Int) = E by omega] at this
    rw [this, ← Nat.mul_assoc, val]
    exact inI
  have hne : T.getD 0 0 ≠ 48 := by rw [hT0]; omega
  obtain ⟨dp, hdp⟩ : ∃ dp : Int, (nd : Int) + p = dp := ⟨_, rfl⟩
  rw [hdp] at hI ⊢
  unfold txt
  by_cases hx : dp - 1 < -4 ∨ 6 ≤ dp - 1
  · rw [if_pos hx]
    -- the exponent form
    obtain ⟨e, he⟩ : ∃ e : Int, dp - 1 = e := ⟨_, rfl⟩
    rw [he]
    obtain ⟨Lm, hLm⟩ : ∃ Lm, [c0] ++ fracL j (digs d nd) = Lm := ⟨_, rfl⟩
    have hLS : Mant Lm ∧ Sm Lm ∧ 1 ≤ Lm.length ∧ Lm.length ≤ 20 ∧ Lm.getD 0 0 = c0 ∧ (scan Lm).man = dv T ∧ (scan Lm).nd = j ∧ (scan Lm).dig = true ∧ (if (scan Lm).dot then (scan Lm).dp else ((scan Lm).nd : Int)) = 1 := by
      have hcd : Dg [c0] := fun x hx => by simp at hx; omega
      by_cases h1 : j ≤ 1
      · have e1 : Lm = T := by
          rw [← hLm, ← hT]
          unfold fracL
          rw [if_pos h1, List.append_nil, show j = 0 + 1 by omega, take_snoc _ 0 (by rw [digs_len]; omega), hc0]
          rfl
        have hs := scan_one T hTd (by omega) hne
        rw [e1, hs]
        exact ⟨Mant.dig hTd, hTd.sm, by omega, by omega, hT0, rfl, hTl, rfl, by simp; omega⟩
      · have e1 : Lm = [c0] ++ [46] ++ T.drop 1 := by
          rw [← hLm, ← hT]
          unfold fracL
          rw [if_neg h1]
          rfl
        have e2 : [c0] ++ T.drop 1 = T := by
          cases T with
          | nil => simp at hTl; omega
          | cons x T' =>
            have : x = c0 := hT0
            subst this
            rfl
        have hs := scan_f2 [c0] (T.drop 1) hcd (hTd.drop 1) (by simp) (by show c0 ≠ 48; omega)
        rw [e2] at hs
        rw [e1, hs]
        refine ⟨Mant.pt hcd (hTd.drop 1), (hcd.sm.app (fun x hx => by simp at hx; omega)).app (hTd.drop 1).sm, by simp, by simp; omega, rfl, rfl, ?_, rfl, by simp⟩
        simp only [List.length_drop, List.length_singleton]
        omega
    obtain ⟨a1, a2, a3, a4, a5, a6, a7, a8, a9⟩ := hLS
    obtain ⟨eneg, heneg⟩ : ∃ b, decide (e < 0) = b := ⟨_, rfl⟩
    obtain ⟨x, hx2⟩ : ∃ x : Nat, e.natAbs = x := ⟨_, rfl⟩
    obtain ⟨x1, x2, x3, x4⟩ := expL_dg x (by omega)
    have htxt : txtE neg j (digs d nd) e = sgF neg ++ (Lm ++ (101 :: (if eneg then 45 else 43) :: expL x)) := by
      unfold txtE expS
      rw [hc0, ← hLm]
      have hs : sgL neg = sgF neg := rfl
      rw [hs]
      by_cases hn : e < 0
      · have : eneg = true := by rw [← heneg]; exact decide_eq_true hn
        subst this
        rw [if_pos hn, show (-e).toNat = x by omega]
        simp
      · have : eneg = false := by rw [← heneg]; exact decide_eq_false hn
        subst this
        rw [if_neg hn, show e.toNat = x by omega]
        simp
    rw [htxt]
    refine ⟨dv T, dp - j, ?_, hV0, by omega, by omega, hI _ rfl⟩
    have := reads_exp neg eneg Lm (expL x) a2 a3 a4 a1 (by rw [a7]; omega) a8 (by rw [a5]; exact hc.1) (by rw [a5]; exact hc.2) (by rw [a6]; exact hV0) x1 x2 x3 (dp - j) (by
      rw [a9, a7, x4]
      by_cases hn : e < 0
      · have : eneg = true := by rw [← heneg]; exact decide_eq_true hn
        subst this
        simp; omega
      · have : eneg = false := by rw [← heneg]; exact decide_eq_false hn
        subst this
        simp; omega)
    rw [a6] at this
    exact this
  · rw [if_neg hx]
    by_cases h0 : dp ≤ 0
    · rw [if_pos h0, hT]
      obtain ⟨b, hb⟩ : ∃ b : Nat, (-dp).toNat = b := ⟨_, rfl⟩
      rw [hb]
      have hs := scan_f3 T b hTd (by omega) hne
      have he : sgF neg ++ [48] ++ [46] ++ zer b ++ T = sgF neg ++ ([48] ++ [46] ++ (zer b ++ T)) := by simp
      rw [he]
      refine ⟨dv T, dp - j, ?_, hV0, by omega, by omega, hI _ rfl⟩
      have h48 : Dg [48] := fun x hx => by simp at hx; omega
      have := reads_plain neg ([48] ++ [46] ++ (zer b ++ T)) ((h48.sm.app (fun x hx => by simp at hx; omega)).app ((Dg.zer b).app hTd).sm) (by simp) (by simp [zer]; omega) (Mant.pt h48 ((Dg.zer b).app hTd))
        (by rw [hs]; show T.length ≤ 18; omega) (by rw [hs]) (fun _ _ => rfl) (by show (48 : Int) ≤ 48; omega) (by show (48 : Int) ≤ 57; omega) (dp - j) (by rw [hs]; simp only [if_true]; rw [if_neg (by omega)]; omega)
      rw [hs] at this
      exact this
    · rw [if_neg h0]
      obtain ⟨a, ha⟩ : ∃ a : Nat, dp = (a : Int) := ⟨dp.toNat, by omega⟩
      have ha' : dp.toNat = a := by omega
      rw [ha', hT]
      by_cases h4 : (j : Int) ≤ dp
      · rw [if_pos h4]
        have hs := scan_f1 T (a - j) hTd (by omega) hne
        have he : sgF neg ++ T ++ zer (a - j) = sgF neg ++ (T ++ zer (a - j)) := by simp
        rw [he]
        have hV2 : 0 < dv T * 10 ^ (a - j) := Nat.mul_pos hV0 (Nat.pow_pos (by decide))
        refine ⟨dv T * 10 ^ (a - j), 0, ?_, hV2, ?_, by omega, ?_⟩
        · have h0' : (T ++ zer (a - j)).getD 0 0 = c0 := by rw [getD_app_left _ _ _ (by omega)]; exact hT0
          have := reads_plain neg (T ++ zer (a - j)) (hTd.app (Dg.zer _)).sm (by simp; omega) (by simp [zer]; omega) (Mant.dig (hTd.app (Dg.zer _)))
            (by rw [hs]; show T.length + (a - j) ≤ 18; omega) (by rw [hs]) (fun h => by rw [h0'] at h; omega) (by rw [h0']; omega) (by rw [h0']; omega) 0 (by rw [hs]; simp)
          rw [hs] at this
          exact this
        · have e1 : dv T < 10 ^ j := by
            have := dv_lt T (fun k hk => hTd.get k hk) j (by omega)
            rw [List.take_of_length_le (by omega)] at this
            exact this
          have e2 := Nat.mul_lt_mul_of_pos_right e1 (Nat.pow_pos (n := a - j) (show 0 < 10 by decide))
          rw [← Nat.pow_add, show j + (a - j) = a by omega] at e2
          have e3 := Nat.pow_le_pow_right (show 10 > 0 by decide) (show a ≤ 17 by omega)
          omega
        · have := hI (dp - j) rfl
          have t := T10_nat 0 (by omega) (a - j)
          rw [show (0 : Int) + ((a - j : Nat) : Int) = dp - j by omega] at t
          rw [t, ← Nat.mul_assoc] at this
          exact this
      · rw [if_neg h4]
        have hta : (digs d nd).take a = T.take a := by rw [← hT, List.take_take, Nat.min_eq_left (by omega)]
        rw [hta]
        have hA : (T.take a).length = a := by rw [List.length_take]; omega
        have hA0 : (T.take a).getD 0 0 = c0 := by
          rw [← hT0]
          simp only [List.getD]
          rw [List.getElem?_take, if_pos (by omega)]
        have hs := scan_f2 (T.take a) (T.drop a) (hTd.take a) (hTd.drop a) (by omega) (by rw [hA0]; omega)
        rw [List.take_append_drop] at hs
        have he : sgF neg ++ T.take a ++ [46] ++ T.drop a = sgF neg ++ (T.take a ++ [46] ++ T.drop a) := by simp
        rw [he]
        have h0' : (T.take a ++ [46] ++ T.drop a).getD 0 0 = c0 := by rw [List.append_assoc, getD_app_left _ _ _ (by omega)]; exact hA0
        refine ⟨dv T, dp - j, ?_, hV0, by omega, by omega, hI _ rfl⟩
        have hl : (T.take a).length + (T.drop a).length = j := by rw [hA, List.length_drop]; omega
        have := reads_plain neg (T.take a ++ [46] ++ T.drop a) (((hTd.take a).sm.app (fun x hx => by simp at hx; omega)).app (hTd.drop a).sm) (by simp; omega) (by simp; omega) (Mant.pt (hTd.take a) (hTd.drop a))
          (by rw [hs]; show (T.take a).length + (T.drop a).length ≤ 18; omega) (by rw [hs]) (fun h => by rw [h0'] at h; omega) (by rw [h0']; omega) (by rw [h0']; omega) (dp - j) (by rw [hs]; simp only [if_true]; rw [if_neg (by omega), hl, hA, ha])
        rw [hs] at this
        exact this
end YtpefdgaijeefoaaDoor
end Go.Proofs

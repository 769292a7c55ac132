/-
  readFloat ON A NUMBER's TEXT WITH AN EXPONENT: what it reads. Conditions: the text's form, as named.
  By an AI agent. No person has read it.
-/
import Derived.Test.YtpefdgaijeefoaaDoorW14
namespace Go.Proofs
open Go.RowKit Go.Lib
namespace YtpefdgaijeefoaaDoor

theorem dv_lt (X : List Int) (h : ∀ k, k < X.length → 48 ≤ X.getD k 0 ∧ X.getD k 0 ≤ 57) : ∀ k, k ≤ X.length → dv (X.take k) < 10 ^ k
  | 0, _ => by simp [dv_nil]
  | k + 1, hk => by
    have := dv_lt X h k (by omega)
    have := h k (by omega)
    rw [take_snoc X k (by omega), dv_snoc, Nat.pow_succ]
    omega

set_option maxRecDepth 100000 in
set_option maxHeartbeats 1600000 in
theorem rf_exp (s : ByteArray) (N i0 i1 : Nat) (neg eneg : Bool) (L X : List Int) (w : World) (hN : s.size = N) (hN2 : N ≤ 30) (hL1 : 1 ≤ L.length) (hi : i0 + L.length = i1) (hX1 : 1 ≤ X.length) (hX3 : X.length ≤ 3) (hi1 : i1 + 2 + X.length = N)
    (he1 : bt s i1 = 101) (he2 : bt s (i1 + 1) = if eneg then 45 else 43) (hXb : ∀ k, k < X.length → bt s (i1 + 2 + k) = X.getD k 0) (hXd : ∀ k, k < X.length → 48 ≤ X.getD k 0 ∧ X.getD k 0 ≤ 57)
    (h0 : (neg = true ∧ i0 = 1 ∧ bt s 0 = 45) ∨ (neg = false ∧ i0 = 0)) (hb : ∀ k, k < L.length → bt s (i0 + k) = L.getD k 0) (hM : Mant L) (hnd : (scan L).nd ≤ 18) (hdig : (scan L).dig = true)
    (hx : L.getD 0 0 ≠ 48) (hman : 0 < (scan L).man) (h00 : L.getD 0 0 ≠ 46)
    (E : Int) (hE : E = (if (scan L).dot then (scan L).dp else (scan L).nd) + (if eneg then -(dv X : Int) else dv X) - (scan L).nd) :
    Calls Tryd.prog 59 #[.string s] w fun e w' => e = .returned (.tuple #[.int .u64 ((scan L).man : Nat), .int .i64 E, .bool neg, .bool false, .bool false, .int .i64 N, .bool true]) ∧ w = w' := by
  have bts := get_bt s
  have HB := Lib.hid hb
  have HM := Lib.hid hM
  have HXB := Lib.hid hXb
  have HXD := Lib.hid hXd
  have HE1 := Lib.hid he1
  have HE2x := Lib.hid he2
  have HMAN := Lib.hid hman
  have HE := Lib.hid hE
  have H0 := Lib.hid h0
  have HND := Lib.hid hnd
  have HDIG := Lib.hid hdig
  have hM0 := hM 0 (by omega)
  have hb0 := hb 0 (by omega)
  obtain ⟨c0, hc0⟩ : ∃ c, L.getD 0 0 = c := ⟨_, rfl⟩
  rw [hc0] at hM0 hb0 h00
  have hc48 : 48 ≤ c0 ∧ c0 ≤ 57 := by
    rcases hM0 with ⟨a, _⟩ | a
    · exact absurd a h00
    · exact a
  have HC0 := Lib.hid hc0
  clear hXb hXd he1 he2 hman hb hM hE h0 hM0 h00 hc0 hnd hdig
  rw [Nat.add_zero] at hb0
  obtain ⟨hc1, hc2⟩ := hc48
  go_enter Tryd.func59, Tryd.ntmps59
  have hN0 : decide (N = 0) = false := decide_eq_false (by omega)
  go_wp2_with fail
  go_step3
  obtain ⟨b0, hbs0⟩ : ∃ b, bt s 0 = b := ⟨_, rfl⟩
  have hlen0 : 0 < N := by omega
  go_upto_block 0 with fail
  go_cut [4, 7] (fun s4 s7 wx => s4 = .bool neg ∧ s7 = .int .i64 i0 ∧ wx = w)
  case first => as_aux_lemma =>
    rcases H0.out with ⟨rfl, rfl, hm⟩ | ⟨rfl, rfl⟩
    · have hm' : b0 = 45 := by rw [← hbs0]; exact hm
      subst hm'
      clear hm
      go_wp2_with fail
      go_meet
      exact ⟨rfl, rfl, rfl⟩
    · have hm' : b0 = c0 := by rw [← hbs0]; exact hb0
      subst hm'
      have n43 : (b0 == 43) = false := by simp; omega
      have n45 : (b0 == 45) = false := by simp; omega
      go_wp2_with fail
      go_meet
      exact ⟨rfl, rfl, rfl⟩
  case rest =>
    obtain ⟨rfl, rfl, hw⟩ := hcut
    have hw := hw.symm
    subst hw
    clear hbs0
    have h48' : (c0 == 48) = false := by rw [← HC0.out]; simpa using hx
    have h480 : ¬ c0 = 48 := by simpa using h48'
    clear hx
    go_upto_region 12 with fail
    go_cut [54] (fun s54 wx => s54 = .bool false ∧ wx = w)
    case first => as_aux_lemma =>
      go_wp2_with fail
      all_goals go_meet
      all_goals exact ⟨rfl, rfl⟩
    case rest =>
      obtain ⟨rfl, hw⟩ := hcut
      have hw := hw.symm
      subst hw
      go_wp2_with fail
      go_step3
      go_wp2_with fail
      clear hb0
      go_loop [2, 5, 7, 9, 13, 14, 15, 16, 17] (fun s2 s5 s7 s9 s13 s14 s15 s16 s17 => ∃ (i man nd : Nat) (dot dig : Bool) (dp : Int), i0 ≤ i ∧ i ≤ i1 ∧ s2 = .int .u64 man ∧ s5 = .bool false ∧ s7 = .int .i64 i ∧ s9 = .bool false
          ∧ s13 = .bool dot ∧ s14 = .bool dig ∧ s15 = .int .i64 nd ∧ s16 = .int .i64 nd ∧ s17 = .int .i64 dp ∧ Hid (scan (L.take (i - i0)) = ⟨man, dot, dig, nd, dp⟩)) (fun _ _ s7 _ _ _ _ _ _ => i1 - (Lib.intOf s7).toNat)
      case atStart => exact ⟨i0, 0, 0, false, false, 0, Nat.le_refl _, by omega, rfl, rfl, rfl, rfl, rfl, rfl, rfl, rfl, rfl, by unfold Hid; rw [Nat.sub_self]; rfl⟩
      case round =>
        obtain ⟨i, man, nd, dot, dig, dp, hi0, hiN, rfl, rfl, rfl, rfl, rfl, rfl, rfl, rfl, rfl, HS⟩ := hrel
        have hinv := scan_inv L HM.out (i - i0) (by omega)
        have hmono := scan_mono L (L.length - (i - i0)) (i - i0) (by omega)
        rw [HS.out] at hinv hmono
        dsimp only at hinv hmono
        obtain ⟨v1, v2, v3, v4⟩ := hinv
        have v5 : nd ≤ 18 := Nat.le_trans hmono HND.out
        have v6 : man < 1000000000000000000 := Nat.lt_of_lt_of_le v1 (Nat.pow_le_pow_right (by decide) v5)
        clear v1 hmono
        by_cases hlt : i < i1
        · as_aux_lemma =>
          obtain ⟨c, hbi⟩ : ∃ c, bt s i = c := ⟨_, rfl⟩
          have hLc : L.getD (i - i0) 0 = c := by rw [← HB.out (i - i0) (by omega), show i0 + (i - i0) = i by omega]; exact hbi
          have hMc := HM.out (i - i0) (by omega)
          rw [hLc, HS.out] at hMc
          have HST : Hid (scan (L.take (i + 1 - i0)) = stp ⟨man, dot, dig, nd, dp⟩ c) := by
            unfold Hid
            rw [show i + 1 - i0 = i - i0 + 1 by omega, scan_take L _ (by omega), HS.out, hLc]
          clear hLc
          dsimp only at hMc
          by_cases h46 : c = 46
          · subst h46
            have hdot : dot = false := by
              rcases hMc with ⟨_, a⟩ | a
              · exact a
              · omega
            subst hdot
            clear hMc
            go_wp2_with fail
            go_round
            case rel => exact ⟨i + 1, man, nd, true, dig, nd, by omega, by omega, rfl, rfl, by go_num, rfl, rfl, rfl, rfl, rfl, rfl, HST⟩
            case measure => simp only [Lib.intOf]; omega
          · as_aux_lemma =>
            have hc1' : 48 ≤ c := by omega
            have hc2' : c ≤ 57 := by omega
            have n95 : (c == 95) = false := by simp; omega
            have n46 : (c == 46) = false := by simpa using h46
            clear hMc
            by_cases hz : c = 48 ∧ nd = 0
            · obtain ⟨rfl, rfl⟩ := hz
              go_wp2_with fail
              go_round
              case rel => exact ⟨i + 1, man, 0, dot, true, dp - 1, by omega, by omega, rfl, rfl, by go_num, rfl, rfl, rfl, rfl, rfl, rfl, HST⟩
              case measure => simp only [Lib.intOf]; omega
            · have HST2 : Hid (scan (L.take (i + 1 - i0)) = ⟨man * 10 + (c - 48).toNat, dot, true, nd + 1, dp⟩) := by
                unfold Hid
                rw [HST.out]
                unfold stp
                rw [if_neg h46, if_neg hz]
              obtain ⟨e, he⟩ : ∃ e : Nat, c = (e : Int) + 48 := ⟨(c - 48).toNat, by omega⟩
              have he9 : e ≤ 9 := by omega
              subst he
              have HST3 : Hid (scan (L.take (i + 1 - i0)) = ⟨man * 10 + e, dot, true, nd + 1, dp⟩) := by
                have := HST2.out
                rw [show ((e : Int) + 48 - 48).toNat = e by omega] at this
                exact this
              clear HST HST2
              have hnd19 : decide ((nd : Int) < 19) = true := decide_eq_true (by omega)
              rcases Nat.eq_zero_or_pos e with h | h
              · subst h
                have hnd0 : ((nd : Int) == 0) = false := by simp; omega
                go_wp2_with fail
                go_round
                case rel => exact ⟨i + 1, man * 10 + 0, nd + 1, dot, true, dp, by omega, by omega, by go_num, rfl, by go_num, rfl, rfl, rfl, by go_num, by go_num, rfl, HST3⟩
                case measure => simp only [Lib.intOf]; omega
              · have he0 : ((e : Int) + 48 == 48) = false := by simp; omega
                go_wp2_with fail
                go_round
                case rel => exact ⟨i + 1, man * 10 + e, nd + 1, dot, true, dp, by omega, by omega, by go_num, rfl, by go_num, rfl, rfl, rfl, by go_num, by go_num, rfl, HST3⟩
                case measure => simp only [Lib.intOf]; omega
        · as_aux_lemma =>
          obtain rfl : i = i1 := by omega
          have HF : Hid (scan L = ⟨man, dot, dig, nd, dp⟩) := by
            have := HS.out
            rw [List.take_of_length_le (by omega)] at this
            exact this
          have hg : dig = true := by have := HDIG.out; rw [HF.out] at this; exact this
          subst hg
          have hm0 : 0 < man := by have := HMAN.out; rw [HF.out] at this; exact this
          have HE2 : Hid (E = (if dot then dp else (nd : Int)) + (if eneg then -(dv X : Int) else dv X) - nd) := by have := HE.out; rw [HF.out] at this; exact this
          clear HS
          have hm' : ((man : Int) != 0) = true := by simp; omega
          have b1 : bt s i = 101 := HE1.out
          have hiN2 : i + 1 < N := by omega
          obtain ⟨dF, hdF⟩ : ∃ d : Int, (if dot then dp else (nd : Int)) = d := ⟨_, rfl⟩
          have d1 : -30 ≤ dF := by rw [← hdF]; split <;> omega
          have d2 : dF ≤ 30 := by rw [← hdF]; split <;> omega
          have HE3 : Hid (E = dF + (if eneg then -(dv X : Int) else dv X) - nd) := by have := HE2.out; rw [hdF] at this; exact this
          have HDF := Lib.hid hdF
          clear hdF HE2
          go_upto_if 142 with fail
          go_cut [17] (fun s17 wx => s17 = .int .i64 dF ∧ wx = w)
          case first => as_aux_lemma =>
            cases dot
            all_goals
              go_wp2_with fail
              go_meet
              exact ⟨by rw [← HDF.out]; rfl, rfl⟩
          case rest => as_aux_lemma =>
            obtain ⟨rfl, hw⟩ := hcut
            have hw := hw.symm
            subst hw
            obtain ⟨b2v, b2⟩ : ∃ b, bt s (i + 1) = b := ⟨_, rfl⟩
            obtain ⟨sg, hsg⟩ : ∃ g : Int, (if eneg then -1 else 1) = g := ⟨_, rfl⟩
            have HSG := Lib.hid hsg
            have sg1 : -1 ≤ sg := by rw [← hsg]; split <;> omega
            have sg2 : sg ≤ 1 := by rw [← hsg]; split <;> omega
            have HE2y := HE2x.out
            rw [b2] at HE2y
            have HE2z := Lib.hid HE2y
            clear HE2y hsg
            go_upto_block 4 with (go_at_call 69; refine (low_any _ _ low101 _).mono ?_; rintro e' w' ⟨rfl, rfl⟩)
            go_cut [7, 19] (fun s7 s19 wx => s7 = .int .i64 ((i + 2 : Nat) : Int) ∧ s19 = .int .i64 sg ∧ wx = w)
            case first => as_aux_lemma =>
              cases eneg
              · have b3 : b2v = 43 := HE2z.out
                subst b3
                go_wp2_with fail
                go_meet
                exact ⟨by go_num, by rw [← HSG.out]; rfl, rfl⟩
              · have b3 : b2v = 45 := HE2z.out
                subst b3
                go_wp2_with fail
                go_meet
                exact ⟨by go_num, by rw [← HSG.out]; rfl, rfl⟩
            case rest => as_aux_lemma =>
              obtain ⟨rfl, rfl, hw⟩ := hcut
              have hw := hw.symm
              subst hw
              clear b2
              obtain ⟨i2, hi2⟩ : ∃ t, i + 2 = t := ⟨_, rfl⟩
              have hXb0 := HXB.out 0 (by omega)
              have hX0 := HXD.out 0 (by omega)
              rw [Nat.add_zero, hi2] at hXb0
              rw [hi2]
              obtain ⟨t0, ht0⟩ : ∃ t : Nat, X.getD 0 0 = (t : Int) + 48 := ⟨(X.getD 0 0 - 48).toNat, by omega⟩
              have t09 : t0 ≤ 9 := by omega
              rw [ht0] at hXb0
              have k48 : decide ((t0 : Int) + 48 < 48) = false := decide_eq_false (by omega)
              have k57 : decide (57 < (t0 : Int) + 48) = false := decide_eq_false (by omega)
              have hi2N : i2 < N := by omega
              clear hX0 ht0
              go_wp2_with fail
              clear hXb0
              go_loop [7, 9, 20] (fun s7 s9 s20 => ∃ (m e : Nat), i2 ≤ m ∧ m ≤ N ∧ s7 = .int .i64 m ∧ s9 = .bool false ∧ s20 = .int .i64 e ∧ e ≤ 999 ∧ Hid (dv (X.take (m - i2)) = e)) (fun s7 _ _ => N - (Lib.intOf s7).toNat)
              case atStart => exact ⟨i2, 0, by omega, by omega, rfl, rfl, rfl, by omega, by unfold Hid; rw [Nat.sub_self]; rfl⟩
              case round =>
                obtain ⟨m, e, hm1, hm2, rfl, rfl, rfl, he9, HV⟩ := hrel
                by_cases hmN : m < N
                · as_aux_lemma =>
                  obtain ⟨c, hbc⟩ : ∃ c, bt s m = c := ⟨_, rfl⟩
                  have hxc : X.getD (m - i2) 0 = c := by rw [← HXB.out (m - i2) (by omega), show i + 2 + (m - i2) = m by omega]; exact hbc
                  have hxd := HXD.out (m - i2) (by omega)
                  rw [hxc] at hxd
                  obtain ⟨t, ht⟩ : ∃ t : Nat, c = (t : Int) + 48 := ⟨(c - 48).toNat, by omega⟩
                  have ht9 : t ≤ 9 := by omega
                  have HV2 : Hid (dv (X.take (m + 1 - i2)) = e * 10 + t) := by
                    unfold Hid
                    rw [show m + 1 - i2 = m - i2 + 1 by omega, take_snoc X _ (by omega), dv_snoc, HV.out, hxc, ht, show ((t : Int) + 48 - 48).toNat = t by omega]
                  have hV3 : e * 10 + t ≤ 999 := by
                    have := dv_lt X HXD.out (m + 1 - i2) (by omega)
                    rw [HV2.out] at this
                    have := Nat.pow_le_pow_right (show 10 > 0 by decide) (show m + 1 - i2 ≤ 3 by omega)
                    omega
                  subst ht
                  clear hxc hxd
                  have n95 : ((t : Int) + 48 == 95) = false := by simp; omega
                  have k48 : decide ((48 : Int) ≤ (t : Int) + 48) = true := decide_eq_true (by omega)
                  have k57 : decide ((t : Int) + 48 ≤ 57) = true := decide_eq_true (by omega)
                  go_wp2_with fail
                  go_round
                  case rel => exact ⟨m + 1, e * 10 + t, by omega, by omega, by go_num, rfl, by go_num, hV3, HV2⟩
                  case measure => simp only [Lib.intOf]; omega
                · as_aux_lemma =>
                  obtain rfl : m = N := by omega
                  have HV2 : Hid (dv X = e) := by
                    have := HV.out
                    rw [List.take_of_length_le (by omega)] at this
                    exact this
                  clear HV
                  obtain ⟨pv, hpv⟩ : ∃ p : Int, (e : Int) * sg = p := ⟨_, rfl⟩
                  have hpv2 : Hid (pv = if eneg then -(e : Int) else e) := by
                    unfold Hid
                    rw [← hpv, ← HSG.out]
                    cases eneg <;> simp
                  have p1 : -999 ≤ pv := by have := hpv2.out; split at this <;> omega
                  have p2 : pv ≤ 999 := by have := hpv2.out; split at this <;> omega
                  go_wp2_with fail
                  go_returns
                  rw [HF.out, HE3.out, HV2.out]
                  exact ⟨by rw [hpv2.out], rfl⟩
end YtpefdgaijeefoaaDoor
end Go.Proofs

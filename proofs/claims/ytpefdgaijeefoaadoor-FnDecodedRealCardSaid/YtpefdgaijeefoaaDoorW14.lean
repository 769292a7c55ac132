/-
  readFloat ON A NUMBER's TEXT: what it reads. Conditions: the text's form, as named.
  By an AI agent. No person has read it.
-/
import Derived.Test.YtpefdgaijeefoaaDoorW13
import Derived.WalkMore
import Derived.Deep.CutBlock
import Derived.ScopeJumps
namespace Go.Proofs
open Go.RowKit Go.Lib
namespace YtpefdgaijeefoaaDoor

/-- byte k of a text; nought behind its end. -/
def bt (s : ByteArray) (k : Nat) : Int := if h : k < s.size then ((s[k]'h).toNat : Int) else 0
theorem get_bt (s : ByteArray) (n : Nat) (h : n < s.size) : ((s[n]'h).toNat : Int) = bt s n := by unfold bt; rw [dif_pos h]
/-- the reading of the digits with the point. -/
structure RS where
  man : Nat
  dot : Bool
  dig : Bool
  nd : Nat
  dp : Int
def stp (s : RS) (c : Int) : RS :=
  if c = 46 then ⟨s.man, true, s.dig, s.nd, s.nd⟩
  else if c = 48 ∧ s.nd = 0 then ⟨s.man, s.dot, true, s.nd, s.dp - 1⟩
  else ⟨s.man * 10 + (c - 48).toNat, s.dot, true, s.nd + 1, s.dp⟩
def scan (L : List Int) : RS := L.foldl stp ⟨0, false, false, 0, 0⟩
theorem scan_snoc (L : List Int) (c : Int) : scan (L ++ [c]) = stp (scan L) c := by simp [scan, List.foldl_append]
theorem scan_take (L : List Int) (k : Nat) (h : k < L.length) : scan (L.take (k + 1)) = stp (scan (L.take k)) (L.getD k 0) := by
  rw [take_snoc L k h, scan_snoc]
/-- a mantissa's text: digits, and one point at most. -/
def Mant (L : List Int) : Prop := ∀ k, k < L.length → (L.getD k 0 = 46 ∧ (scan (L.take k)).dot = false) ∨ (48 ≤ L.getD k 0 ∧ L.getD k 0 ≤ 57)
theorem scan_inv (L : List Int) (hM : Mant L) : ∀ k, k ≤ L.length → (scan (L.take k)).man < 10 ^ (scan (L.take k)).nd ∧ (scan (L.take k)).nd ≤ k ∧ -(k : Int) ≤ (scan (L.take k)).dp ∧ (scan (L.take k)).dp ≤ k
  | 0, _ => by simp [scan]
  | k + 1, h => by
    obtain ⟨a, b, c, d⟩ := scan_inv L hM k (by omega)
    rw [scan_take L k (by omega)]
    have hc := hM k (by omega)
    generalize scan (L.take k) = R at *
    generalize L.getD k 0 = x at *
    unfold stp
    split
    · refine ⟨a, ?_, ?_, ?_⟩ <;> dsimp only <;> omega
    · split
      · refine ⟨a, ?_, ?_, ?_⟩ <;> dsimp only <;> omega
      · refine ⟨?_, ?_, ?_, ?_⟩ <;> dsimp only
        · rw [Nat.pow_succ]; omega
        all_goals omega
theorem scan_mono (L : List Int) : ∀ n k, k + n = L.length → (scan (L.take k)).nd ≤ (scan L).nd
  | 0, k, h => by rw [List.take_of_length_le (by omega)]; exact Nat.le_refl _
  | n + 1, k, h => by
    have := scan_mono L n (k + 1) (by omega)
    rw [scan_take L k (by omega)] at this
    refine Nat.le_trans ?_ this
    unfold stp
    split
    · exact Nat.le_refl _
    · split
      · exact Nat.le_refl _
      · exact Nat.le_succ _

theorem low_any (c d : Int) (h : bits .or .u8 c 32 = d) (w : World) : Calls Tryd.prog 69 #[.int .u8 c] w fun e w' => e = .returned (.int .u8 d) ∧ w = w' :=
  (Tryd.internal_strconv_lower c w).mono fun e w' ⟨a, b⟩ => ⟨by rw [a, h], b.symm⟩
theorem low46 : bits .or .u8 46 32 = 46 := by decide +kernel
theorem low101 : bits .or .u8 101 32 = 101 := by decide +kernel

set_option maxRecDepth 100000 in
set_option maxHeartbeats 1600000 in
theorem rf_plain (s : ByteArray) (N i0 : Nat) (neg : Bool) (L : List Int) (w : World) (hN : s.size = N) (hN2 : N ≤ 30) (hL1 : 1 ≤ L.length) (hi : i0 + L.length = N)
    (h0 : (neg = true ∧ i0 = 1 ∧ bt s 0 = 45) ∨ (neg = false ∧ i0 = 0)) (hb : ∀ k, k < L.length → bt s (i0 + k) = L.getD k 0) (hM : Mant L) (hnd : (scan L).nd ≤ 18) (hdig : (scan L).dig = true)
    (hx : L.getD 0 0 = 48 → 3 ≤ L.length → L.getD 1 0 = 46) (h00 : L.getD 0 0 ≠ 46)
    (E : Int) (hE : E = if (scan L).man = 0 then 0 else (if (scan L).dot then (scan L).dp else (scan L).nd) - (scan L).nd) :
    Calls Tryd.prog 59 #[.string s] w fun e w' => e = .returned (.tuple #[.int .u64 ((scan L).man : Nat), .int .i64 E, .bool neg, .bool false, .bool false, .int .i64 N, .bool true]) ∧ w = w' := by
  have bts := get_bt s
  have HB := Lib.hid hb
  have HM := Lib.hid hM
  have HX := Lib.hid hx
  have HE := Lib.hid hE
  have H0 := Lib.hid h0
  have HND := Lib.hid hnd
  have HDIG := Lib.hid hdig
  have hM0 := hM 0 (by omega)
  have hb0 := hb 0 (by omega)
  obtain ⟨c0, hc0⟩ : ∃ c, L.getD 0 0 = c := ⟨_, rfl⟩
  rw [hc0] at hM0 hb0 h00
  have hc48 : 48 ≤ c0 ∧ c0 ≤ 57 := by
    rcases hM0 with ⟨a, _⟩ | a
    · exact absurd a h00
    · exact a
  have HC0 := Lib.hid hc0
  clear hb hM hx hE h0 hM0 h00 hc0 hnd hdig
  rw [Nat.add_zero] at hb0
  obtain ⟨hc1, hc2⟩ := hc48
  go_enter Tryd.func59, Tryd.ntmps59
  have hN0 : decide (N = 0) = false := decide_eq_false (by omega)
  go_wp2_with fail
  go_step3
  obtain ⟨b0, hbs0⟩ : ∃ b, bt s 0 = b := ⟨_, rfl⟩
  have hlen0 : 0 < N := by omega
  go_upto_block 0 with fail
  go_cut [4, 7] (fun s4 s7 wx => s4 = .bool neg ∧ s7 = .int .i64 i0 ∧ wx = w)
  case first =>
    rcases H0.out with ⟨rfl, rfl, hm⟩ | ⟨rfl, rfl⟩
    · have hm' : b0 = 45 := by rw [← hbs0]; exact hm
      subst hm'
      clear hm
      go_wp2_with fail
      go_meet
      exact ⟨rfl, rfl, rfl⟩
    · have hm' : b0 = c0 := by rw [← hbs0]; exact hb0
      subst hm'
      have n43 : (b0 == 43) = false := by simp; omega
      have n45 : (b0 == 45) = false := by simp; omega
      go_wp2_with fail
      go_meet
      exact ⟨rfl, rfl, rfl⟩
  case rest =>
    obtain ⟨rfl, rfl, hw⟩ := hcut
    have hw := hw.symm
    subst hw
    clear hbs0
    have HI1 := HB.out 1
    have HX' := HX.out
    rw [HC0.out] at HX'
    go_upto_region 12 with fail
    go_cut [54] (fun s54 wx => s54 = .bool false ∧ wx = w)
    case first =>
      by_cases h3 : i0 + 2 < N
      · by_cases h48 : c0 = 48
        · subst h48
          have hx1 : bt s (i0 + 1) = 46 := by rw [HI1 (by omega)]; exact HX' rfl (by omega)
          clear HI1 HX'
          go_wp2_with (go_at_call 69; refine (low_any _ _ low46 _).mono ?_; rintro e' w' ⟨rfl, rfl⟩)
          go_meet
          exact ⟨rfl, rfl⟩
        · have h48' : (c0 == 48) = false := by simpa using h48
          clear HI1 HX'
          go_wp2_with fail
          go_meet
          exact ⟨rfl, rfl⟩
      · clear HI1 HX'
        have h3' : decide ((i0 : Int) + 2 < N) = false := decide_eq_false (by omega)
        go_wp2_with fail
        go_meet
        exact ⟨rfl, rfl⟩
    case rest =>
      obtain ⟨rfl, hw⟩ := hcut
      have hw := hw.symm
      subst hw
      clear HI1 HX'
      go_wp2_with fail
      go_step3
      go_wp2_with fail
      clear hb0
      go_loop [2, 5, 7, 9, 13, 14, 15, 16, 17] (fun s2 s5 s7 s9 s13 s14 s15 s16 s17 => ∃ (i man nd : Nat) (dot dig : Bool) (dp : Int), i0 ≤ i ∧ i ≤ N ∧ s2 = .int .u64 man ∧ s5 = .bool false ∧ s7 = .int .i64 i ∧ s9 = .bool false
          ∧ s13 = .bool dot ∧ s14 = .bool dig ∧ s15 = .int .i64 nd ∧ s16 = .int .i64 nd ∧ s17 = .int .i64 dp ∧ Hid (scan (L.take (i - i0)) = ⟨man, dot, dig, nd, dp⟩)) (fun _ _ s7 _ _ _ _ _ _ => N - (Lib.intOf s7).toNat)
      case atStart => exact ⟨i0, 0, 0, false, false, 0, Nat.le_refl _, by omega, rfl, rfl, rfl, rfl, rfl, rfl, rfl, rfl, rfl, by unfold Hid; rw [Nat.sub_self]; rfl⟩
      case round =>
        obtain ⟨i, man, nd, dot, dig, dp, hi0, hiN, rfl, rfl, rfl, rfl, rfl, rfl, rfl, rfl, rfl, HS⟩ := hrel
        have hinv := scan_inv L HM.out (i - i0) (by omega)
        have hmono := scan_mono L (L.length - (i - i0)) (i - i0) (by omega)
        rw [HS.out] at hinv hmono
        dsimp only at hinv hmono
        obtain ⟨v1, v2, v3, v4⟩ := hinv
        have v5 : nd ≤ 18 := Nat.le_trans hmono HND.out
        have v6 : man < 1000000000000000000 := Nat.lt_of_lt_of_le v1 (Nat.pow_le_pow_right (by decide) v5)
        clear v1 hmono
        by_cases hlt : i < N
        · obtain ⟨c, hbi⟩ : ∃ c, bt s i = c := ⟨_, rfl⟩
          have hLc : L.getD (i - i0) 0 = c := by rw [← HB.out (i - i0) (by omega), show i0 + (i - i0) = i by omega]; exact hbi
          have hMc := HM.out (i - i0) (by omega)
          rw [hLc, HS.out] at hMc
          have HST : Hid (scan (L.take (i + 1 - i0)) = stp ⟨man, dot, dig, nd, dp⟩ c) := by
            unfold Hid
            rw [show i + 1 - i0 = i - i0 + 1 by omega, scan_take L _ (by omega), HS.out, hLc]
          clear hLc
          dsimp only at hMc
          by_cases h46 : c = 46
          · subst h46
            have hdot : dot = false := by
              rcases hMc with ⟨_, a⟩ | a
              · exact a
              · omega
            subst hdot
            clear hMc
            go_wp2_with fail
            go_round
            case rel => exact ⟨i + 1, man, nd, true, dig, nd, by omega, by omega, rfl, rfl, by go_num, rfl, rfl, rfl, rfl, rfl, rfl, HST⟩
            case measure => simp only [Lib.intOf]; omega
          · have hc1' : 48 ≤ c := by omega
            have hc2' : c ≤ 57 := by omega
            have n95 : (c == 95) = false := by simp; omega
            have n46 : (c == 46) = false := by simpa using h46
            clear hMc
            by_cases hz : c = 48 ∧ nd = 0
            · obtain ⟨rfl, rfl⟩ := hz
              go_wp2_with fail
              go_round
              case rel => exact ⟨i + 1, man, 0, dot, true, dp - 1, by omega, by omega, rfl, rfl, by go_num, rfl, rfl, rfl, rfl, rfl, rfl, HST⟩
              case measure => simp only [Lib.intOf]; omega
            · have HST2 : Hid (scan (L.take (i + 1 - i0)) = ⟨man * 10 + (c - 48).toNat, dot, true, nd + 1, dp⟩) := by
                unfold Hid
                rw [HST.out]
                unfold stp
                rw [if_neg h46, if_neg hz]
              obtain ⟨e, he⟩ : ∃ e : Nat, c = (e : Int) + 48 := ⟨(c - 48).toNat, by omega⟩
              have he9 : e ≤ 9 := by omega
              subst he
              have HST3 : Hid (scan (L.take (i + 1 - i0)) = ⟨man * 10 + e, dot, true, nd + 1, dp⟩) := by
                have := HST2.out
                rw [show ((e : Int) + 48 - 48).toNat = e by omega] at this
                exact this
              clear HST HST2
              have hnd19 : decide ((nd : Int) < 19) = true := decide_eq_true (by omega)
              rcases Nat.eq_zero_or_pos e with h | h
              · subst h
                have hnd0 : ((nd : Int) == 0) = false := by simp; omega
                go_wp2_with fail
                go_round
                case rel => exact ⟨i + 1, man * 10 + 0, nd + 1, dot, true, dp, by omega, by omega, by go_num, rfl, by go_num, rfl, rfl, rfl, by go_num, by go_num, rfl, HST3⟩
                case measure => simp only [Lib.intOf]; omega
              · have he0 : ((e : Int) + 48 == 48) = false := by simp; omega
                go_wp2_with fail
                go_round
                case rel => exact ⟨i + 1, man * 10 + e, nd + 1, dot, true, dp, by omega, by omega, by go_num, rfl, by go_num, rfl, rfl, rfl, by go_num, by go_num, rfl, HST3⟩
                case measure => simp only [Lib.intOf]; omega
        · obtain rfl : i = N := by omega
          have HF : Hid (scan L = ⟨man, dot, dig, nd, dp⟩) := by
            have := HS.out
            rw [List.take_of_length_le (by omega)] at this
            exact this
          have hg : dig = true := by have := HDIG.out; rw [HF.out] at this; exact this
          subst hg
          have HE2 : Hid (E = if man = 0 then 0 else (if dot then dp else (nd : Int)) - nd) := by have := HE.out; rw [HF.out] at this; exact this
          clear HS
          by_cases hm : man = 0
          · subst hm
            have he : E = 0 := by rw [HE2.out, if_pos rfl]
            subst he
            cases dot
            all_goals
              go_wp2_with fail
              go_returns
              rw [HF.out]
              exact ⟨rfl, rfl⟩
          · have hm' : ((man : Int) != 0) = true := by simp; omega
            cases dot
            · have he : E = (nd : Int) - nd := by rw [HE2.out, if_neg hm]; rfl
              have HEE := Lib.hid he
              clear he
              go_wp2_with fail
              go_returns
              rw [HF.out, HEE.out]
              exact ⟨by simp, rfl⟩
            · have he : E = dp - nd := by rw [HE2.out, if_neg hm]; rfl
              have HEE := Lib.hid he
              clear he
              go_wp2_with fail
              go_returns
              rw [HF.out, HEE.out]
              exact ⟨rfl, rfl⟩
end YtpefdgaijeefoaaDoor
end Go.Proofs

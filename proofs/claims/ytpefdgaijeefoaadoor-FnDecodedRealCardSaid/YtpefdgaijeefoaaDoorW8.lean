/-
  fmtEFG IN THE FORM WITHOUT EXPONENT, shortest: the text that it appends. Conditions: the sizes that are named.
  By an AI agent. No person has read it.
-/
import Derived.Test.YtpefdgaijeefoaaDoorW6
import Derived.LoopTactic
namespace Go.Proofs
open Go.RowKit Go.Lib
namespace YtpefdgaijeefoaaDoor

def sgF (neg : Bool) : List Int := if neg then [45] else []
def zer (k : Nat) : List Int := List.replicate k 48
theorem zer_succ (k : Nat) : zer k ++ [48] = zer (k + 1) := by unfold zer; rw [List.replicate_succ']
theorem take_get (ds : List Int) (k : Nat) (h : k < ds.length) : ds.take k ++ [ds.getD k 0] = ds.take (k + 1) := by
  rw [List.take_succ_eq_append_getElem h]
  simp [List.getD, List.getElem?_eq_getElem h]
theorem drop_take_get (ds : List Int) (a k : Nat) (h : a + k < ds.length) : (ds.take (a + k)).drop a ++ [ds.getD (a + k) 0] = (ds.take (a + (k + 1))).drop a := by
  rw [show a + (k + 1) = a + k + 1 by omega, ← take_get ds (a + k) h, List.drop_append_of_le_length (by simp; omega)]

set_option maxRecDepth 100000 in
set_option maxHeartbeats 1600000 in
theorem fmt_f3 (D B nd b : Nat) (neg : Bool) (ds : List Int) (w : World) (hS : St w w D B 0 ds []) (h1 : 1 ≤ nd) (h17 : nd ≤ 17) (hds : nd ≤ ds.length) (hb : b ≤ 3)
    (hdig : ∀ j, 0 ≤ ds.getD j 0 ∧ ds.getD j 0 ≤ 255) :
    Calls Tryd.prog 33 #[.slice (some ⟨D, 0, none⟩) 0 24, .bool neg, .slice (some ⟨B, 0, none⟩) 32 32, .int .i64 (-(b : Int)), .int .i64 nd, .int .i64 nd, .int .u8 103, .bool true] w fun e w' =>
      ∃ n, e = .returned (.slice (some ⟨D, 0, none⟩) n 24) ∧ St w w' D B n ds (sgF neg ++ [48] ++ [46] ++ zer b ++ ds.take nd) := by
  have X1 : decide (-(b : Int) - 1 < -4) = false := decide_eq_false (by omega)
  have X2 : decide (6 ≤ -(b : Int) - 1) = false := decide_eq_false (by omega)
  have HS := Lib.hid hS
  have HG := Lib.hid hdig
  clear hS hdig
  have M1 : max ((nd : Int) + b) 0 = (nd : Int) + b := by omega
  have M2 : max 0 (b : Int) = b := by omega
  have M3 : min ((nd : Int) + b) (b : Int) = b := by omega
  have M5 : (-(b : Int) + b) = 0 := by omega
  have M4 : max 0 (nd : Int) = nd := by omega
  have M6 : ((nd : Int) + b - b) = nd := by omega
  have M7 : max 0 (0 : Int) = 0 := by omega
  have M8 : (nd : Int) - nd = 0 := by omega
  have M9 : min (nd : Int) nd = nd := by omega
  have hp : 0 < (nd : Int) + b := by omega
  have hp0 : ¬ (0 < -(b : Int)) := by omega
  go_enter Tryd.func33, Tryd.ntmps33
  go_upto_if 178 with fail
  go_cut [0] (fun s0 wx => ∃ n, s0 = .slice (some ⟨D, 0, none⟩) n 24 ∧ n ≤ 1 ∧ Hid (St w wx D B n ds (sgF neg)))
  case first =>
    cases neg with
    | false =>
      go_wp2_with fail
      go_meet
      exact ⟨0, rfl, by omega, HS.out⟩
    | true =>
      go_wp2_with (at_builtin; refine wpList_pushN [45] 1 _ rfl _ _ rfl rfl HS.out _ rfl rfl (by omega) ?_; intro w1 hS1)
      have HS1 := Lib.hid hS1
      clear hS1
      go_wp2_with fail
      go_meet
      exact ⟨1, rfl, by omega, HS1.out⟩
  case rest =>
    obtain ⟨n, rfl, hn, HS1⟩ := hcut
    go_wp2_with (first
      | (at_builtin; refine wpList_pushN [48] 1 _ rfl _ _ rfl rfl HS1.out _ rfl rfl (by omega) ?_; intro w1 hS1; have HS2 := Lib.hid hS1; clear hS1 HS1)
      | (at_builtin; refine wpList_pushN [46] 1 _ rfl _ _ rfl rfl HS2.out _ rfl rfl (by omega) ?_; intro w2 hS1; have HS3 := Lib.hid hS1; clear hS1 HS2))
    go_loopw [0, 240] (fun s0 s1 wx => ∃ k : Nat, s1 = .int .i64 k ∧ k ≤ b ∧ s0 = .slice (some ⟨D, 0, none⟩) (n + 1 + 1 + k) 24 ∧ Hid (St w wx D B (n + 1 + 1 + k) ds (sgF neg ++ [48] ++ [46] ++ zer k))) (fun _ s1 _ => b - (Lib.intOf s1).toNat)
    case atStart => exact ⟨0, rfl, by omega, rfl, by unfold Hid; simpa [zer] using HS3.out⟩
    case round =>
      obtain ⟨k, rfl, hk, rfl, HS4⟩ := hrel
      by_cases hkb : k < b
      · go_wp2_with (at_builtin; refine wpList_pushN [48] 1 _ rfl _ _ rfl rfl HS4.out _ rfl rfl (by omega) ?_; intro w1 hS1; have HS5 := Lib.hid hS1; clear hS1 HS4)
        go_roundw
        case rel => exact ⟨k + 1, by go_num, by omega, rfl, by unfold Hid; rw [← zer_succ, ← List.append_assoc]; exact HS5.out⟩
        case measure => simp only [Lib.intOf]; omega
      · have hkb' : k = b := by omega
        subst hkb'
        go_wp2_with fail
        go_loopw [0, 247] (fun s0 s1 wx => ∃ j : Nat, s1 = .int .i64 j ∧ j ≤ nd ∧ s0 = .slice (some ⟨D, 0, none⟩) (n + 1 + 1 + k + j) 24 ∧ Hid (St w wx D B (n + 1 + 1 + k + j) ds (sgF neg ++ [48] ++ [46] ++ zer k ++ ds.take j))) (fun _ s1 _ => nd - (Lib.intOf s1).toNat)
        case atStart => exact ⟨0, rfl, by omega, rfl, by unfold Hid; simpa using HS4.out⟩
        case round =>
          obtain ⟨j, rfl, hj, rfl, HS5⟩ := hrel
          by_cases hjn : j < nd
          · obtain ⟨c, hc⟩ : ∃ c, ds.getD j 0 = c := ⟨_, rfl⟩
            have D0 : wr.cell? ⟨B, j, none⟩ = some (.int .u8 c) := by have := HS5.out.dig j (by omega); rw [hc] at this; exact this
            have HC : Hid (ds.take j ++ [c] = ds.take (j + 1)) := by unfold Hid; rw [← hc]; exact take_get ds j (by omega)
            clear hc
            go_wp2_with (at_builtin; refine wpList_pushN [c] 1 _ rfl _ _ rfl rfl HS5.out _ rfl rfl (by omega) ?_; intro w1 hS1; have HS6 := Lib.hid hS1; clear hS1 HS5)
            go_roundw
            case rel => exact ⟨j + 1, by go_num, by omega, rfl, by unfold Hid; rw [← HC.out, ← List.append_assoc]; exact HS6.out⟩
            case measure => simp only [Lib.intOf]; omega
          · have hjn' : j = nd := by omega
            subst hjn'
            go_wp2_with fail
            refine wp_loop_rounds 1 ?_
            rw [rounds_succ]
            go_wp2_with fail
            go_ret
            exact ⟨_, rfl, HS5.out⟩
set_option maxRecDepth 100000 in
set_option maxHeartbeats 1600000 in
theorem fmt_f1 (D B nd a : Nat) (neg : Bool) (ds : List Int) (w : World) (hS : St w w D B 0 ds []) (h1 : 1 ≤ nd) (h17 : nd ≤ 17) (hds : nd ≤ ds.length) (hna : nd ≤ a) (ha : a ≤ 6) (hdig : ∀ j, 0 ≤ ds.getD j 0 ∧ ds.getD j 0 ≤ 255) :
    Calls Tryd.prog 33 #[.slice (some ⟨D, 0, none⟩) 0 24, .bool neg, .slice (some ⟨B, 0, none⟩) 32 32, .int .i64 (a : Int), .int .i64 nd, .int .i64 nd, .int .u8 103, .bool true] w fun e w' =>
      ∃ n, e = .returned (.slice (some ⟨D, 0, none⟩) n 24) ∧ St w w' D B n ds (sgF neg ++ ds.take nd ++ zer (a - nd)) := by
  have X1 : decide ((a : Int) - 1 < -4) = false := decide_eq_false (by omega)
  have X2 : decide (6 ≤ (a : Int) - 1) = false := decide_eq_false (by omega)
  have HS := Lib.hid hS
  have HG := Lib.hid hdig
  clear hS hdig
  have hlt : ¬ ((a : Int) < (nd : Int)) := by omega
  have hlt0 : (0 : Int) < (a : Int) := by omega
  have M1 : max ((nd : Int) - a) 0 = 0 := by omega
  have M2 : min (nd : Int) (a : Int) = nd := by omega
  go_enter Tryd.func33, Tryd.ntmps33
  go_upto_if 178 with fail
  go_cut [0] (fun s0 wx => ∃ n, s0 = .slice (some ⟨D, 0, none⟩) n 24 ∧ n ≤ 1 ∧ Hid (St w wx D B n ds (sgF neg)))
  case first =>
    cases neg with
    | false =>
      go_wp2_with fail
      go_meet
      exact ⟨0, rfl, by omega, HS.out⟩
    | true =>
      go_wp2_with (at_builtin; refine wpList_pushN [45] 1 _ rfl _ _ rfl rfl HS.out _ rfl rfl (by omega) ?_; intro w1 hS1)
      have HS1 := Lib.hid hS1
      clear hS1
      go_wp2_with fail
      go_meet
      exact ⟨1, rfl, by omega, HS1.out⟩
  case rest =>
    obtain ⟨n, rfl, hn, HS1⟩ := hcut
    go_wp2_with fail
    go_loopw [0, 191] (fun s0 s1 wx => ∃ j : Nat, s1 = .int .i64 j ∧ j ≤ nd ∧ s0 = .slice (some ⟨D, 0, none⟩) (n + j) 24 ∧ Hid (St w wx D B (n + j) ds (sgF neg ++ ds.take j))) (fun _ s1 _ => nd - (Lib.intOf s1).toNat)
    case atStart => exact ⟨0, rfl, by omega, rfl, by unfold Hid; simpa using HS1.out⟩
    case round =>
      obtain ⟨j, rfl, hj, rfl, HS5⟩ := hrel
      by_cases hjn : j < nd
      · obtain ⟨c, hc⟩ : ∃ c, ds.getD j 0 = c := ⟨_, rfl⟩
        have D0 : wr.cell? ⟨B, j, none⟩ = some (.int .u8 c) := by have := HS5.out.dig j (by omega); rw [hc] at this; exact this
        have HC : Hid (ds.take j ++ [c] = ds.take (j + 1)) := by unfold Hid; rw [← hc]; exact take_get ds j (by omega)
        clear hc
        go_wp2_with (at_builtin; refine wpList_pushN [c] 1 _ rfl _ _ rfl rfl HS5.out _ rfl rfl (by omega) ?_; intro w1 hS1; have HS6 := Lib.hid hS1; clear hS1 HS5)
        go_roundw
        case rel => exact ⟨j + 1, by go_num, by omega, rfl, by unfold Hid; rw [← HC.out, ← List.append_assoc]; exact HS6.out⟩
        case measure => simp only [Lib.intOf]; omega
      · have hjn' : j = nd := by omega
        subst hjn'
        go_wp2_with fail
        go_loopw [0, 203] (fun s0 s1 wx => ∃ k : Nat, s1 = .int .i64 k ∧ k ≤ a - j ∧ s0 = .slice (some ⟨D, 0, none⟩) (n + j + k) 24 ∧ Hid (St w wx D B (n + j + k) ds (sgF neg ++ ds.take j ++ zer k))) (fun _ s1 _ => a - j - (Lib.intOf s1).toNat)
        case atStart => exact ⟨0, rfl, by omega, rfl, by unfold Hid; simpa [zer] using HS5.out⟩
        case round =>
          obtain ⟨k, rfl, hk, rfl, HS4⟩ := hrel
          by_cases hkb : k < a - j
          · go_wp2_with (at_builtin; refine wpList_pushN [48] 1 _ rfl _ _ rfl rfl HS4.out _ rfl rfl (by omega) ?_; intro w1 hS1; have HS5 := Lib.hid hS1; clear hS1 HS4)
            go_roundw
            case rel => exact ⟨k + 1, by go_num, by omega, rfl, by unfold Hid; rw [← zer_succ, ← List.append_assoc]; exact HS5.out⟩
            case measure => simp only [Lib.intOf]; omega
          · have hkb' : k = a - j := by omega
            subst hkb'
            go_wp2_with fail
            go_ret
            exact ⟨_, rfl, HS4.out⟩
set_option maxRecDepth 100000 in
set_option maxHeartbeats 1600000 in
theorem fmt_f2 (D B nd a : Nat) (neg : Bool) (ds : List Int) (w : World) (hS : St w w D B 0 ds []) (h1 : 1 ≤ a) (h17 : nd ≤ 17) (hds : nd ≤ ds.length) (hna : a < nd) (ha : a ≤ 6) (hdig : ∀ j, 0 ≤ ds.getD j 0 ∧ ds.getD j 0 ≤ 255) :
    Calls Tryd.prog 33 #[.slice (some ⟨D, 0, none⟩) 0 24, .bool neg, .slice (some ⟨B, 0, none⟩) 32 32, .int .i64 (a : Int), .int .i64 nd, .int .i64 nd, .int .u8 103, .bool true] w fun e w' =>
      ∃ n, e = .returned (.slice (some ⟨D, 0, none⟩) n 24) ∧ St w w' D B n ds (sgF neg ++ ds.take a ++ [46] ++ (ds.take nd).drop a) := by
  have X1 : decide ((a : Int) - 1 < -4) = false := decide_eq_false (by omega)
  have X2 : decide (6 ≤ (a : Int) - 1) = false := decide_eq_false (by omega)
  have HS := Lib.hid hS
  have HG := Lib.hid hdig
  clear hS hdig
  have X3 : decide (0 < a) = true := decide_eq_true (by omega)
  have hlt : (a : Int) < (nd : Int) := by omega
  have M1 : max ((nd : Int) - a) 0 = (nd : Int) - a := by omega
  have M2 : min (nd : Int) (a : Int) = a := by omega
  have M3 : max (0 : Int) (-(a : Int)) = 0 := by omega
  have M4 : min ((nd : Int) - a) 0 = 0 := by omega
  have M5 : max 0 ((nd : Int) - a) = (nd : Int) - a := by omega
  have M6 : min ((nd : Int) - a) ((nd : Int) - a) = (nd : Int) - a := by omega
  have M7 : max 0 (0 : Int) = 0 := by omega
  have M8 : (nd : Int) - a - (nd - a) = 0 := by omega
  go_enter Tryd.func33, Tryd.ntmps33
  go_upto_if 178 with fail
  go_cut [0] (fun s0 wx => ∃ n, s0 = .slice (some ⟨D, 0, none⟩) n 24 ∧ n ≤ 1 ∧ Hid (St w wx D B n ds (sgF neg)))
  case first =>
    cases neg with
    | false =>
      go_wp2_with fail
      go_meet
      exact ⟨0, rfl, by omega, HS.out⟩
    | true =>
      go_wp2_with (at_builtin; refine wpList_pushN [45] 1 _ rfl _ _ rfl rfl HS.out _ rfl rfl (by omega) ?_; intro w1 hS1)
      have HS1 := Lib.hid hS1
      clear hS1
      go_wp2_with fail
      go_meet
      exact ⟨1, rfl, by omega, HS1.out⟩
  case rest =>
    obtain ⟨n, rfl, hn, HS1⟩ := hcut
    go_wp2_with fail
    go_loopw [0, 191] (fun s0 s1 wx => ∃ j : Nat, s1 = .int .i64 j ∧ j ≤ a ∧ s0 = .slice (some ⟨D, 0, none⟩) (n + j) 24 ∧ Hid (St w wx D B (n + j) ds (sgF neg ++ ds.take j))) (fun _ s1 _ => a - (Lib.intOf s1).toNat)
    case atStart => exact ⟨0, rfl, by omega, rfl, by unfold Hid; simpa using HS1.out⟩
    case round =>
      obtain ⟨j, rfl, hj, rfl, HS5⟩ := hrel
      by_cases hjn : j < a
      · obtain ⟨c, hc⟩ : ∃ c, ds.getD j 0 = c := ⟨_, rfl⟩
        have D0 : wr.cell? ⟨B, j, none⟩ = some (.int .u8 c) := by have := HS5.out.dig j (by omega); rw [hc] at this; exact this
        have HC : Hid (ds.take j ++ [c] = ds.take (j + 1)) := by unfold Hid; rw [← hc]; exact take_get ds j (by omega)
        clear hc
        go_wp2_with (at_builtin; refine wpList_pushN [c] 1 _ rfl _ _ rfl rfl HS5.out _ rfl rfl (by omega) ?_; intro w1 hS1; have HS6 := Lib.hid hS1; clear hS1 HS5)
        go_roundw
        case rel => exact ⟨j + 1, by go_num, by omega, rfl, by unfold Hid; rw [← HC.out, ← List.append_assoc]; exact HS6.out⟩
        case measure => simp only [Lib.intOf]; omega
      · have hjn' : j = a := by omega
        subst hjn'
        go_wp2_with fail
        refine wp_loop_rounds 1 ?_
        rw [rounds_succ]
        go_wp2_with (at_builtin; refine wpList_pushN [46] 1 _ rfl _ _ rfl rfl HS5.out _ rfl rfl (by omega) ?_; intro w1 hS1; have HS6 := Lib.hid hS1; clear hS1 HS5)
        refine wp_loop_rounds 1 ?_
        rw [rounds_succ]
        go_wp2_with fail
        go_loopw [0, 247] (fun s0 s1 wx => ∃ k : Nat, s1 = .int .i64 k ∧ k ≤ nd - j ∧ s0 = .slice (some ⟨D, 0, none⟩) (n + j + 1 + k) 24 ∧ Hid (St w wx D B (n + j + 1 + k) ds (sgF neg ++ ds.take j ++ [46] ++ (ds.take (j + k)).drop j))) (fun _ s1 _ => nd - j - (Lib.intOf s1).toNat)
        case atStart => exact ⟨0, rfl, by omega, rfl, by unfold Hid; simpa using HS6.out⟩
        case round =>
          obtain ⟨k, rfl, hk, rfl, HS7⟩ := hrel
          by_cases hkn : k < nd - j
          · obtain ⟨c, hc⟩ : ∃ c, ds.getD (j + k) 0 = c := ⟨_, rfl⟩
            have D0 : wr.cell? ⟨B, j + k, none⟩ = some (.int .u8 c) := by have := HS7.out.dig (j + k) (by omega); rw [hc] at this; exact this
            have HC : Hid ((ds.take (j + k)).drop j ++ [c] = (ds.take (j + (k + 1))).drop j) := by unfold Hid; rw [← hc]; exact drop_take_get ds j k (by omega)
            clear hc
            go_wp2_with (at_builtin; refine wpList_pushN [c] 1 _ rfl _ _ rfl rfl HS7.out _ rfl rfl (by omega) ?_; intro w1 hS1; have HS8 := Lib.hid hS1; clear hS1 HS7)
            go_roundw
            case rel => exact ⟨k + 1, by go_num, by omega, rfl, by unfold Hid; rw [← HC.out, ← List.append_assoc]; exact HS8.out⟩
            case measure => simp only [Lib.intOf]; omega
          · have hkn' : k = nd - j := by omega
            subst hkn'
            go_wp2_with fail
            refine wp_loop_rounds 1 ?_
            rw [rounds_succ]
            go_wp2_with fail
            go_ret
            refine ⟨_, rfl, ?_⟩
            have := HS7.out
            rw [show j + (nd - j) = nd by omega] at this
            exact this
set_option maxRecDepth 100000 in
set_option maxHeartbeats 1600000 in
theorem fmt_z (D B : Nat) (neg : Bool) (ds : List Int) (w : World) (hS : St w w D B 0 ds [])  :
    Calls Tryd.prog 33 #[.slice (some ⟨D, 0, none⟩) 0 24, .bool neg, .slice none 0 0, .int .i64 0, .int .i64 0, .int .i64 (-1), .int .u8 103, .bool true] w fun e w' =>
      ∃ n, e = .returned (.slice (some ⟨D, 0, none⟩) n 24) ∧ St w w' D B n ds (sgF neg ++ [48]) := by
  have HS := Lib.hid hS
  clear hS
  go_enter Tryd.func33, Tryd.ntmps33
  go_upto_if 178 with fail
  go_cut [0] (fun s0 wx => ∃ n, s0 = .slice (some ⟨D, 0, none⟩) n 24 ∧ n ≤ 1 ∧ Hid (St w wx D B n ds (sgF neg)))
  case first =>
    cases neg with
    | false =>
      go_wp2_with fail
      go_meet
      exact ⟨0, rfl, by omega, HS.out⟩
    | true =>
      go_wp2_with (at_builtin; refine wpList_pushN [45] 1 _ rfl _ _ rfl rfl HS.out _ rfl rfl (by omega) ?_; intro w1 hS1)
      have HS1 := Lib.hid hS1
      clear hS1
      go_wp2_with fail
      go_meet
      exact ⟨1, rfl, by omega, HS1.out⟩
  case rest =>
    obtain ⟨n, rfl, hn, HS1⟩ := hcut
    go_wp2_with (at_builtin; refine wpList_pushN [48] 1 _ rfl _ _ rfl rfl HS1.out _ rfl rfl (by omega) ?_; intro w1 hS1; have HS6 := Lib.hid hS1; clear hS1 HS1)
    go_ret
    exact ⟨_, rfl, HS6.out⟩
end YtpefdgaijeefoaaDoor
end Go.Proofs

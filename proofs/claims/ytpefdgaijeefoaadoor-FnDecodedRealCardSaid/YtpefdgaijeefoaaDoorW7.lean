/-
  fmtEFG IN THE EXPONENT FORM, shortest: the text that it appends. Conditions: the sizes that are named.
  By an AI agent. No person has read it.
-/
import Derived.Test.YtpefdgaijeefoaaDoorW6
namespace Go.Proofs
open Go.RowKit Go.Lib
namespace YtpefdgaijeefoaaDoor

/-- the sign of a text. -/
def sgL (neg : Bool) : List Int := if neg then [45] else []
/-- the digits behind the first, with the point. -/
def fracL (nd : Nat) (ds : List Int) : List Int := if nd ≤ 1 then [] else 46 :: (ds.take nd).drop 1
/-- the exponent's digits: two at least. -/
def expL (x : Nat) : List Int := if x < 10 then [48, (x : Int) + 48] else if x < 100 then [(x : Int) / 10 + 48, (x : Int) % 10 + 48] else [(x : Int) / 100 + 48, (x : Int) / 10 % 10 + 48, (x : Int) % 10 + 48]
def expS (e : Int) : List Int := if e < 0 then 45 :: expL (-e).toNat else 43 :: expL e.toNat
def txtE (neg : Bool) (nd : Nat) (ds : List Int) (e : Int) : List Int := sgL neg ++ [ds.getD 0 0] ++ fracL nd ds ++ [101] ++ expS e

theorem St.src {w0 w : World} {D B n : Nat} {ds L : List Int} (h : St w0 w D B n ds L) (a b : Nat) : ∀ j u, (((ds.take b).drop a).map (Value.int .u8))[j]? = some u → w.cell? ((⟨B, a, none⟩ : Addr).add j) = some u := by
  intro j u hu
  have hadd : (⟨B, a, none⟩ : Addr).add j = ⟨B, a + j, none⟩ := by unfold Addr.add; split <;> simp_all
  rw [hadd]
  simp only [List.getElem?_map, List.getElem?_drop, List.getElem?_take] at hu
  split at hu
  · rw [Option.map_eq_some_iff] at hu
    obtain ⟨x, hx, rfl⟩ := hu
    obtain ⟨hl, hx⟩ := List.getElem?_eq_some_iff.1 hx
    rw [h.dig (a + j) hl]
    simp [List.getD, List.getElem?_eq_getElem hl, hx]
  · simp at hu

set_option maxRecDepth 100000 in
set_option maxHeartbeats 1600000 in
theorem fmt_e1 (D B nd : Nat) (neg : Bool) (dp : Int) (ds : List Int) (w : World) (hS : St w w D B 0 ds []) (h1 : 1 ≤ nd) (h17 : nd ≤ 17) (hds : nd ≤ ds.length) (hdp : -400 ≤ dp) (hdp2 : dp ≤ 400)
    (hx : dp - 1 < -4) (hdig : ∀ j, 0 ≤ ds.getD j 0 ∧ ds.getD j 0 ≤ 255) :
    Calls Tryd.prog 33 #[.slice (some ⟨D, 0, none⟩) 0 24, .bool neg, .slice (some ⟨B, 0, none⟩) 32 32, .int .i64 dp, .int .i64 nd, .int .i64 nd, .int .u8 103, .bool true] w fun e w' =>
      ∃ n, e = .returned (.slice (some ⟨D, 0, none⟩) n 24) ∧ St w w' D B n ds (txtE neg nd ds (dp - 1)) := by
  have X1 : decide (dp - 1 < -4) = true := decide_eq_true hx
  have hd0 := hdig 0
  generalize hd0' : ds.getD 0 0 = d0 at *
  obtain ⟨hd00, hd01⟩ := hd0
  have HS := Lib.hid hS
  have HG := Lib.hid hdig
  have HD0 := Lib.hid hd0'
  clear hS hdig hd0'
  go_enter Tryd.func33, Tryd.ntmps33
  go_upto_if 78 with fail
  go_cut [0] (fun s0 wx => ∃ n, s0 = .slice (some ⟨D, 0, none⟩) n 24 ∧ n ≤ 1 ∧ Hid (St w wx D B n ds (sgL neg)))
  case first =>
    cases neg with
    | false =>
      go_wp2_with fail
      go_meet
      exact ⟨0, rfl, by omega, HS.out⟩
    | true =>
      go_wp2_with (at_builtin; refine wpList_pushN [45] 1 _ rfl _ _ rfl rfl HS.out _ rfl rfl (by omega) ?_; intro w1 hS1)
      have HS1 := Lib.hid hS1
      clear hS1
      go_wp2_with fail
      go_meet
      exact ⟨1, rfl, by omega, HS1.out⟩
  case rest =>
    obtain ⟨n, rfl, hn, HS1⟩ := hcut
    have D0 : wc.cell? ⟨B, 0, none⟩ = some (.int .u8 d0) := by have := HS1.out.dig 0 (by omega); rw [HD0.out] at this; exact this
    have hnd0 : ((nd : Int) != 0) = true := by simp; omega
    go_upto_if 92 with (at_builtin; refine wpList_pushN [d0] 1 _ rfl _ _ rfl rfl HS1.out _ rfl rfl (by omega) ?_; intro w1 hS1; have HS2 := Lib.hid hS1; clear hS1)
    clear HS1 D0
    go_cut [0] (fun s0 wx => ∃ n, s0 = .slice (some ⟨D, 0, none⟩) n 24 ∧ n ≤ 19 ∧ Hid (St w wx D B n ds (sgL neg ++ [d0] ++ fracL nd ds)))
    case first =>
      by_cases hn1 : nd ≤ 1
      · have hn2 : nd = 1 := by omega
        have HF : Hid (fracL nd ds = []) := by unfold Hid fracL; rw [if_pos hn1]
        go_wp2_with fail
        go_meet
        exact ⟨n + 1, rfl, by omega, by rw [HF.out, List.append_nil]; exact HS2.out⟩
      · have HF : Hid (fracL nd ds = [46] ++ (ds.take nd).drop 1) := by unfold Hid fracL; rw [if_neg hn1]; rfl
        have HL : Hid (((ds.take nd).drop 1).length = nd - 1) := by unfold Hid; simp; omega
        have hn1' : 1 < nd := by omega
        go_wp2_with (first
          | (at_builtin; refine wpList_pushN [46] 1 _ rfl _ _ rfl rfl HS2.out _ rfl rfl (by omega) ?_; intro w2 hS1; have HS3 := Lib.hid hS1; clear hS1)
          | (at_builtin; go_loud (refine wpList_push ((ds.take nd).drop 1) (nd - 1) rfl _ _ rfl rfl HS3.out ⟨B, 1, none⟩ 31 rfl HL.out (HS3.out.src 1 nd) (by omega) ?_); intro w3 hS1; have HS4 := Lib.hid hS1; clear hS1))
        refine wp_loop_rounds 1 ?_
        rw [rounds_succ]
        go_wp2_with fail
        go_meet
        exact ⟨_, rfl, by omega, by rw [HF.out, ← List.append_assoc]; exact HS4.out⟩
    case rest =>
      obtain ⟨n', rfl, hn', HS3⟩ := hcut
      obtain ⟨ex, hex⟩ : ∃ ex : Nat, -(dp - 1) = (ex : Int) := ⟨(-(dp - 1)).toNat, by omega⟩
      have HX : Hid (txtE neg nd ds (dp - 1) = sgL neg ++ [d0] ++ fracL nd ds ++ [101] ++ (45 :: expL ex)) := by
        unfold Hid txtE expS
        rw [HD0.out, if_pos (by omega), hex]
        rfl
      have hlt0 : decide (dp - 1 < 0) = true := decide_eq_true (by omega)
      have hnd0 : ((nd : Int) == 0) = false := by simp; omega
      have he400 : ex ≤ 401 := by omega
      by_cases e10 : ex < 10
      · have HE : Hid (expL ex = [48, (ex : Int) + 48]) := by unfold Hid expL; rw [if_pos e10]
        go_wp2_with (first
          | (at_builtin; refine wpList_pushN [101] 1 _ rfl _ _ rfl rfl HS3.out _ rfl rfl (by omega) ?_; intro w2 hS1; have HS4 := Lib.hid hS1; clear hS1)
          | (at_builtin; refine wpList_pushN [45] 1 _ rfl _ _ rfl rfl HS4.out _ rfl rfl (by omega) ?_; intro w3 hS1; have HS5 := Lib.hid hS1; clear hS1)
          | (at_builtin; go_loud (refine wpList_pushN [48, (ex : Int) + 48] 2 _ rfl _ _ rfl rfl HS5.out _ rfl rfl (by omega) ?_); intro w4 hS1; have HS6 := Lib.hid hS1; clear hS1))
        go_ret
        refine ⟨_, rfl, ?_⟩
        rw [HX.out, HE.out]
        have := HS6.out
        simpa only [List.append_assoc, List.cons_append, List.nil_append] using this
      · by_cases e100 : ex < 100
        · have HE : Hid (expL ex = [(ex : Int) / 10 + 48, (ex : Int) % 10 + 48]) := by unfold Hid expL; rw [if_neg e10, if_pos e100]
          go_wp2_with (first
            | (at_builtin; refine wpList_pushN [101] 1 _ rfl _ _ rfl rfl HS3.out _ rfl rfl (by omega) ?_; intro w2 hS1; have HS4 := Lib.hid hS1; clear hS1)
            | (at_builtin; refine wpList_pushN [45] 1 _ rfl _ _ rfl rfl HS4.out _ rfl rfl (by omega) ?_; intro w3 hS1; have HS5 := Lib.hid hS1; clear hS1)
            | (at_builtin; go_loud (refine wpList_pushN [(ex : Int) / 10 + 48, (ex : Int) % 10 + 48] 2 _ rfl _ _ rfl rfl HS5.out _ rfl rfl (by omega) ?_); intro w4 hS1; have HS6 := Lib.hid hS1; clear hS1))
          go_ret
          refine ⟨_, rfl, ?_⟩
          rw [HX.out, HE.out]
          have := HS6.out
          simpa only [List.append_assoc, List.cons_append, List.nil_append] using this
        · have HE : Hid (expL ex = [(ex : Int) / 100 + 48, (ex : Int) / 10 % 10 + 48, (ex : Int) % 10 + 48]) := by unfold Hid expL; rw [if_neg e10, if_neg e100]
          go_wp2_with (first
            | (at_builtin; refine wpList_pushN [101] 1 _ rfl _ _ rfl rfl HS3.out _ rfl rfl (by omega) ?_; intro w2 hS1; have HS4 := Lib.hid hS1; clear hS1)
            | (at_builtin; refine wpList_pushN [45] 1 _ rfl _ _ rfl rfl HS4.out _ rfl rfl (by omega) ?_; intro w3 hS1; have HS5 := Lib.hid hS1; clear hS1)
            | (at_builtin; go_loud (refine wpList_pushN [(ex : Int) / 100 + 48, (ex : Int) / 10 % 10 + 48, (ex : Int) % 10 + 48] 3 _ rfl _ _ rfl rfl HS5.out _ rfl rfl (by omega) ?_); intro w4 hS1; have HS6 := Lib.hid hS1; clear hS1))
          go_ret
          refine ⟨_, rfl, ?_⟩
          rw [HX.out, HE.out]
          have := HS6.out
          simpa only [List.append_assoc, List.cons_append, List.nil_append] using this
set_option maxRecDepth 100000 in
set_option maxHeartbeats 1600000 in
theorem fmt_e2 (D B nd : Nat) (neg : Bool) (dp : Int) (ds : List Int) (w : World) (hS : St w w D B 0 ds []) (h1 : 1 ≤ nd) (h17 : nd ≤ 17) (hds : nd ≤ ds.length) (hdp : -400 ≤ dp) (hdp2 : dp ≤ 400)
    (hx : 6 ≤ dp - 1) (hdig : ∀ j, 0 ≤ ds.getD j 0 ∧ ds.getD j 0 ≤ 255) :
    Calls Tryd.prog 33 #[.slice (some ⟨D, 0, none⟩) 0 24, .bool neg, .slice (some ⟨B, 0, none⟩) 32 32, .int .i64 dp, .int .i64 nd, .int .i64 nd, .int .u8 103, .bool true] w fun e w' =>
      ∃ n, e = .returned (.slice (some ⟨D, 0, none⟩) n 24) ∧ St w w' D B n ds (txtE neg nd ds (dp - 1)) := by
  have X1 : decide (dp - 1 < -4) = false := decide_eq_false (by omega)
  have X2 : decide (6 ≤ dp - 1) = true := decide_eq_true hx
  have hd0 := hdig 0
  generalize hd0' : ds.getD 0 0 = d0 at *
  obtain ⟨hd00, hd01⟩ := hd0
  have HS := Lib.hid hS
  have HG := Lib.hid hdig
  have HD0 := Lib.hid hd0'
  clear hS hdig hd0'
  go_enter Tryd.func33, Tryd.ntmps33
  go_upto_if 78 with fail
  go_cut [0] (fun s0 wx => ∃ n, s0 = .slice (some ⟨D, 0, none⟩) n 24 ∧ n ≤ 1 ∧ Hid (St w wx D B n ds (sgL neg)))
  case first =>
    cases neg with
    | false =>
      go_wp2_with fail
      go_meet
      exact ⟨0, rfl, by omega, HS.out⟩
    | true =>
      go_wp2_with (at_builtin; refine wpList_pushN [45] 1 _ rfl _ _ rfl rfl HS.out _ rfl rfl (by omega) ?_; intro w1 hS1)
      have HS1 := Lib.hid hS1
      clear hS1
      go_wp2_with fail
      go_meet
      exact ⟨1, rfl, by omega, HS1.out⟩
  case rest =>
    obtain ⟨n, rfl, hn, HS1⟩ := hcut
    have D0 : wc.cell? ⟨B, 0, none⟩ = some (.int .u8 d0) := by have := HS1.out.dig 0 (by omega); rw [HD0.out] at this; exact this
    have hnd0 : ((nd : Int) != 0) = true := by simp; omega
    go_upto_if 92 with (at_builtin; refine wpList_pushN [d0] 1 _ rfl _ _ rfl rfl HS1.out _ rfl rfl (by omega) ?_; intro w1 hS1; have HS2 := Lib.hid hS1; clear hS1)
    clear HS1 D0
    go_cut [0] (fun s0 wx => ∃ n, s0 = .slice (some ⟨D, 0, none⟩) n 24 ∧ n ≤ 19 ∧ Hid (St w wx D B n ds (sgL neg ++ [d0] ++ fracL nd ds)))
    case first =>
      by_cases hn1 : nd ≤ 1
      · have hn2 : nd = 1 := by omega
        have HF : Hid (fracL nd ds = []) := by unfold Hid fracL; rw [if_pos hn1]
        go_wp2_with fail
        go_meet
        exact ⟨n + 1, rfl, by omega, by rw [HF.out, List.append_nil]; exact HS2.out⟩
      · have HF : Hid (fracL nd ds = [46] ++ (ds.take nd).drop 1) := by unfold Hid fracL; rw [if_neg hn1]; rfl
        have HL : Hid (((ds.take nd).drop 1).length = nd - 1) := by unfold Hid; simp; omega
        have hn1' : 1 < nd := by omega
        go_wp2_with (first
          | (at_builtin; refine wpList_pushN [46] 1 _ rfl _ _ rfl rfl HS2.out _ rfl rfl (by omega) ?_; intro w2 hS1; have HS3 := Lib.hid hS1; clear hS1)
          | (at_builtin; go_loud (refine wpList_push ((ds.take nd).drop 1) (nd - 1) rfl _ _ rfl rfl HS3.out ⟨B, 1, none⟩ 31 rfl HL.out (HS3.out.src 1 nd) (by omega) ?_); intro w3 hS1; have HS4 := Lib.hid hS1; clear hS1))
        refine wp_loop_rounds 1 ?_
        rw [rounds_succ]
        go_wp2_with fail
        go_meet
        exact ⟨_, rfl, by omega, by rw [HF.out, ← List.append_assoc]; exact HS4.out⟩
    case rest =>
      obtain ⟨n', rfl, hn', HS3⟩ := hcut
      obtain ⟨ex, hex⟩ : ∃ ex : Nat, dp - 1 = (ex : Int) := ⟨(dp - 1).toNat, by omega⟩
      have HX : Hid (txtE neg nd ds (dp - 1) = sgL neg ++ [d0] ++ fracL nd ds ++ [101] ++ (43 :: expL ex)) := by
        unfold Hid txtE expS
        rw [HD0.out, if_neg (by omega), hex]
        rfl
      have hlt0 : decide (dp - 1 < 0) = false := decide_eq_false (by omega)
      have hnd0 : ((nd : Int) == 0) = false := by simp; omega
      have he400 : ex ≤ 401 := by omega
      by_cases e10 : ex < 10
      · have HE : Hid (expL ex = [48, (ex : Int) + 48]) := by unfold Hid expL; rw [if_pos e10]
        go_wp2_with (first
          | (at_builtin; refine wpList_pushN [101] 1 _ rfl _ _ rfl rfl HS3.out _ rfl rfl (by omega) ?_; intro w2 hS1; have HS4 := Lib.hid hS1; clear hS1)
          | (at_builtin; refine wpList_pushN [43] 1 _ rfl _ _ rfl rfl HS4.out _ rfl rfl (by omega) ?_; intro w3 hS1; have HS5 := Lib.hid hS1; clear hS1)
          | (at_builtin; go_loud (refine wpList_pushN [48, (ex : Int) + 48] 2 _ rfl _ _ rfl rfl HS5.out _ rfl rfl (by omega) ?_); intro w4 hS1; have HS6 := Lib.hid hS1; clear hS1))
        go_ret
        refine ⟨_, rfl, ?_⟩
        rw [HX.out, HE.out]
        have := HS6.out
        simpa only [List.append_assoc, List.cons_append, List.nil_append] using this
      · by_cases e100 : ex < 100
        · have HE : Hid (expL ex = [(ex : Int) / 10 + 48, (ex : Int) % 10 + 48]) := by unfold Hid expL; rw [if_neg e10, if_pos e100]
          go_wp2_with (first
            | (at_builtin; refine wpList_pushN [101] 1 _ rfl _ _ rfl rfl HS3.out _ rfl rfl (by omega) ?_; intro w2 hS1; have HS4 := Lib.hid hS1; clear hS1)
            | (at_builtin; refine wpList_pushN [43] 1 _ rfl _ _ rfl rfl HS4.out _ rfl rfl (by omega) ?_; intro w3 hS1; have HS5 := Lib.hid hS1; clear hS1)
            | (at_builtin; go_loud (refine wpList_pushN [(ex : Int) / 10 + 48, (ex : Int) % 10 + 48] 2 _ rfl _ _ rfl rfl HS5.out _ rfl rfl (by omega) ?_); intro w4 hS1; have HS6 := Lib.hid hS1; clear hS1))
          go_ret
          refine ⟨_, rfl, ?_⟩
          rw [HX.out, HE.out]
          have := HS6.out
          simpa only [List.append_assoc, List.cons_append, List.nil_append] using this
        · have HE : Hid (expL ex = [(ex : Int) / 100 + 48, (ex : Int) / 10 % 10 + 48, (ex : Int) % 10 + 48]) := by unfold Hid expL; rw [if_neg e10, if_neg e100]
          go_wp2_with (first
            | (at_builtin; refine wpList_pushN [101] 1 _ rfl _ _ rfl rfl HS3.out _ rfl rfl (by omega) ?_; intro w2 hS1; have HS4 := Lib.hid hS1; clear hS1)
            | (at_builtin; refine wpList_pushN [43] 1 _ rfl _ _ rfl rfl HS4.out _ rfl rfl (by omega) ?_; intro w3 hS1; have HS5 := Lib.hid hS1; clear hS1)
            | (at_builtin; go_loud (refine wpList_pushN [(ex : Int) / 100 + 48, (ex : Int) / 10 % 10 + 48, (ex : Int) % 10 + 48] 3 _ rfl _ _ rfl rfl HS5.out _ rfl rfl (by omega) ?_); intro w4 hS1; have HS6 := Lib.hid hS1; clear hS1))
          go_ret
          refine ⟨_, rfl, ?_⟩
          rw [HX.out, HE.out]
          have := HS6.out
          simpa only [List.append_assoc, List.cons_append, List.nil_append] using this
end YtpefdgaijeefoaaDoor
end Go.Proofs

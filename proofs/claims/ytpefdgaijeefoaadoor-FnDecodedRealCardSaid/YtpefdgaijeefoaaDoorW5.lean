/-
  shortFloat's WALK: it answers as the numbers say. Conditions: the sizes that are named; the table reads as the library's text lays it.
  By an AI agent. No person has read it.
-/
import Derived.Test.YtpefdgaijeefoaaDoorW4
import Derived.Deep.DeepCutAuto
import Derived.Outline
namespace Go.Proofs
open Go.RowKit Go.Lib
namespace YtpefdgaijeefoaaDoor

theorem skewed_named (x v : Int) (w : World) (h0 : -2000 ≤ x) (h1 : x ≤ 2000) (hv : (x * 631305 - 261663) / 2097152 = v) :
    Calls Tryd.prog 44 #[.int .i64 x] w fun e w' => e = .returned (.int .i64 v) ∧ w = w' := by
  subst hv; exact skewed_any x w h0 h1
theorem log10_named (x v : Int) (w : World) (h0 : -2000 ≤ x) (h1 : x ≤ 2000) (hv : x * 78913 / 262144 = v) :
    Calls Tryd.prog 38 #[.int .i64 x] w fun e w' => e = .returned (.int .i64 v) ∧ w = w' := by
  subst hv; exact log10Pow2_any x w h0 h1
theorem log2_named (x v : Int) (w : World) (h0 : -2000 ≤ x) (h1 : x ≤ 2000) (hv : lpw x = v) :
    Calls Tryd.prog 46 #[.int .i64 x] w fun e w' => e = .returned (.int .i64 v) ∧ w = w' := by
  subst hv; exact log2Pow10_any x w h0 h1
theorem and1i (u : Nat) (h : u < 9223372036854775808) : bits .and .i64 (u : Int) 1 = ((u % 2 : Nat) : Int) := by
  have := bits_mask .i64 63 (by decide) (fun n h0 h1 => by rw [IntKind.wrap_i64]; omega) 1 (by decide) (u : Int) (by omega) (by omega)
  exact this
theorem nudge_posN (x k v : Nat) (w : World) (h1 : x < 18446744073709551600) (hk1 : k ≤ 1) (hv : x + k = v) :
    Calls Tryd.prog 48 #[.int .u64 x, .int .i64 k] w fun e w' => e = .returned (.int .u64 v) ∧ w = w' := by
  subst hv; exact nudge_pos x k w h1 hk1
theorem nudge_negN (x k v : Nat) (w : World) (h0 : 1 ≤ x) (h1 : x < 18446744073709551600) (hk1 : k ≤ 1) (hv : x - k = v) :
    Calls Tryd.prog 48 #[.int .u64 x, .int .i64 (-(k : Int))] w fun e w' => e = .returned (.int .u64 v) ∧ w = w' := by
  subst hv; exact nudge_neg x k w h0 h1 hk1
theorem ceilN (x v : Nat) (w : World) (h1 : x < 18446744073709551600) (hv : (x + 3) / 4 = v) :
    Calls Tryd.prog 49 #[.int .u64 x] w fun e w' => e = .returned (.int .u64 v) ∧ w = w' := by
  subst hv; exact ceil_any x w h1
theorem floorN (x v : Nat) (w : World) (h1 : x < 18446744073709551600) (hv : x / 4 = v) :
    Calls Tryd.prog 50 #[.int .u64 x] w fun e w' => e = .returned (.int .u64 v) ∧ w = w' := by
  subst hv; exact floor_any x w (by omega)
theorem roundN (x v : Nat) (w : World) (h1 : x < 18446744073709551600) (hv : rnd x = v) :
    Calls Tryd.prog 51 #[.int .u64 x] w fun e w' => e = .returned (.int .u64 v) ∧ w = w' := by
  subst hv; exact round_any x w h1
theorem short_irr (m mn mx od s umin umax umid dmn dmx dmd i : Nat) (e p : Int) (w : World) (hm : m < 18446744073709551616) (hm0 : 4 ≤ mn) (hmx : mx < 18446744073709551616) (he : -1140 ≤ e) (he2 : e ≤ 970)
    (w1 : m = 9223372036854775808) (w2 : -1085 < e) (w3 : p = -(((e + 11) * 631305 - 261663) / 2097152)) (w4 : mn + 512 = m) (w5 : mx = m + 1024) (w6 : od = m / 2048 % 2) (ht : TabOk w) (hi : i < 696) (hp : p = (i : Int) - 348) (hs : (s : Int) = -(e + lpw p + 3)) (hs2 : s < 64)
    (h1 : us mn (row i).1 (row i).2 s = umin) (h2 : us mx (row i).1 (row i).2 s = umax) (h3 : us m (row i).1 (row i).2 s = umid)
    (b1 : umin < 18446744073709551500) (b2 : umax < 18446744073709551500) (b3 : umid < 18446744073709551500) (b4 : 1 ≤ umax)
    (k1 : (umin + od + 3) / 4 = dmn) (k2 : (umax - od) / 4 = dmx) (k3 : rnd umid = dmd) (r : Nat × Int)
    (hr : r = if dmn ≤ dmx / 10 * 10 then (dmx / 10, -(p - 1)) else if dmn < dmx then (dmd, -p) else (dmn, -p)) :
    Calls Tryd.prog 35 #[.int .u64 m, .int .i64 e] w fun y w' => y = .returned (.tuple #[.int .u64 r.1, .int .i64 r.2]) ∧ Below w.heap.size w w' := by
  have hod : od ≤ 1 := by omega
  have hm1 : mn ≤ m ∧ m ≤ mx := by omega
  have r1 := (row_facts i hi).1
  have r2 := (row_facts i hi).2.1
  have r3 := (row_facts i hi).2.2.1
  have hx1 : 18446744073709551616 ≤ mn * (row i).1 := by
    have := Nat.mul_le_mul hm0 r1
    omega
  have hx2 : 18446744073709551616 ≤ mx * (row i).1 := Nat.le_trans hx1 (Nat.mul_le_mul_right _ (by omega))
  have hx3 : 18446744073709551616 ≤ m * (row i).1 := Nat.le_trans hx1 (Nat.mul_le_mul_right _ (by omega))
  have hl := lpw_bounds p (by omega) (by omega)
  have hp1 : -348 ≤ p := by omega
  have hp2 : p < 348 := by omega
  have HP := Lib.hid hp
  have HS := Lib.hid hs
  have H1 := Lib.hid h1
  have H2 := Lib.hid h2
  have H3 := Lib.hid h3
  have K1 := Lib.hid k1
  have K2 := Lib.hid k2
  have K3 := Lib.hid k3
  have HR := Lib.hid hr
  have hw5 := ht.1
  have g1 := (ht.2 i hi).1
  have g2 := (ht.2 i hi).2
  generalize hRH : (row i).1 = RH at *
  generalize hRL : (row i).2 = RL at *
  have G1 := Lib.hid g1
  have G2 := Lib.hid g2
  obtain ⟨ulo, e1⟩ : ∃ v, umin + od = v := ⟨_, rfl⟩
  obtain ⟨uhi, e2⟩ : ∃ v, umax - od = v := ⟨_, rfl⟩
  have huhi : uhi ≤ umax := by omega
  have hulo : ulo ≤ umin + 1 := by omega
  rw [e1] at K1
  rw [e2] at K2
  have E1 := Lib.hid e1
  have E2' := Lib.hid e2
  have hdmx : dmx ≤ umax := by have := K2.out; omega
  clear hp hs h1 h2 h3 k1 k2 k3 hr ht g1 g2 e1 e2
  have T1 : ((m : Int) == 9223372036854775808) = true := by rw [w1]; rfl
  have T2 : decide (e > -1085) = true := decide_eq_true (by omega)
  have W3 : Hid (((e + 11) * 631305 - 261663) / 2097152 = -p) := by unfold Hid; omega
  have F4 : (m : Int) - 512 = mn := by omega
  have F4' : IntKind.u64.wrap ((m : Int) - 512) = mn := by rw [F4]; exact u64_wrap _ (by omega) (by omega)
  have F5 : (m : Int) + 1024 = mx := by omega
  have F6 : bits .and .i64 ((m : Int) / 2048) 1 = od := by
    have := and1i (m / 2048) (by omega)
    rw [← w6] at this
    exact this
  have hm512 : 512 ≤ m := by omega
  clear w1 w3 w4 w5 w6
  go_enter Tryd.func35, Tryd.ntmps35
  go_wp2_with fail
  ((with_reducible refine (skewed_named _ (-p) _ (by omega) (by omega) W3.out).mono ?_); rintro e' w' ⟨rfl, rfl⟩)
  go_wp2_with fail
  ((with_reducible refine (log2_named p (lpw p) _ (by omega) (by omega) rfl).mono ?_); rintro e' w' ⟨rfl, rfl⟩)
  go_wp2_with fail
  ((with_reducible refine (prescale_new e p (lpw p) i w _ hi HP.out (by omega) (by omega) (by omega) (by omega) (by rw [hRH]; exact G1.out) (by rw [hRL]; exact G2.out) hw5).mono ?_); rintro e' w1 ⟨rfl, hB, hz, d0, d1, d2⟩)
  rw [hRH] at d0
  rw [hRL] at d1
  rw [← HS.out] at d2
  go_wp2_with fail
  ((with_reducible refine (uscale_any mn w.heap.size RH RL s w1 (by omega) r2 r3 hs2 d0 d1 d2 hx1).mono ?_); rintro e' w' ⟨rfl, n1, rfl⟩)
  rw [H1.out]
  go_wp2_with fail
  ((with_reducible refine (nudge_posN umin od ulo _ (by omega) hod E1.out).mono ?_); rintro e' w' ⟨rfl, rfl⟩)
  go_wp2_with fail
  ((with_reducible refine (ceilN ulo dmn _ (by omega) K1.out).mono ?_); rintro e' w' ⟨rfl, rfl⟩)
  go_wp2_with fail
  ((with_reducible refine (uscale_any mx w.heap.size RH RL s (w1.drewN n1) (by omega) r2 r3 hs2 (by go_simp) (by go_simp) (by go_simp) hx2).mono ?_); rintro e' w' ⟨rfl, n2, rfl⟩)
  rw [H2.out]
  go_wp2_with fail
  ((with_reducible refine (nudge_negN umax od uhi _ (by omega) (by omega) hod E2'.out).mono ?_); rintro e' w' ⟨rfl, rfl⟩)
  go_wp2_with fail
  ((with_reducible refine (floorN uhi dmx _ (by omega) K2.out).mono ?_); rintro e' w' ⟨rfl, rfl⟩)
  go_wp2_with fail
  · have t : dmn ≤ dmx / 10 * 10 := by omega
    have hr := HR.out
    rw [if_pos t] at hr
    subst hr
    go_ret2
    exact ⟨rfl, below_drewN hB _⟩
  · have t : ¬ dmn ≤ dmx / 10 * 10 := by omega
    have t2 : dmn < dmx := by assumption
    have hr := HR.out
    rw [if_neg t, if_pos t2] at hr
    subst hr
    ((with_reducible refine (uscale_any m w.heap.size RH RL s _ (by omega) r2 r3 hs2 (by go_simp) (by go_simp) (by go_simp) hx3).mono ?_); rintro e' w' ⟨rfl, n3, rfl⟩)
    rw [H3.out]
    go_wp2_with fail
    ((with_reducible refine (roundN umid dmd _ (by omega) K3.out).mono ?_); rintro e' w' ⟨rfl, rfl⟩)
    go_wp2_with fail
    go_ret2
    exact ⟨rfl, by go_simp; exact below_drewN hB _⟩
  · have t : ¬ dmn ≤ dmx / 10 * 10 := by omega
    have t2 : ¬ dmn < dmx := by assumption
    have hr := HR.out
    rw [if_neg t, if_neg t2] at hr
    subst hr
    go_ret2
    exact ⟨rfl, below_drewN hB _⟩
theorem short_reg (m mn mx od s umin umax umid dmn dmx dmd i : Nat) (e p : Int) (w : World) (hm : m < 18446744073709551616) (hm0 : 4 ≤ mn) (hmx : mx < 18446744073709551616) (he : -1140 ≤ e) (he2 : e ≤ 970)
    (w1 : m ≠ 9223372036854775808) (w2 : -1085 ≤ e) (w3 : p = -((e + 11) * 78913 / 262144)) (w4 : mn + 1024 = m) (w5 : mx = m + 1024) (w6 : od = m / 2048 % 2) (ht : TabOk w) (hi : i < 696) (hp : p = (i : Int) - 348) (hs : (s : Int) = -(e + lpw p + 3)) (hs2 : s < 64)
    (h1 : us mn (row i).1 (row i).2 s = umin) (h2 : us mx (row i).1 (row i).2 s = umax) (h3 : us m (row i).1 (row i).2 s = umid)
    (b1 : umin < 18446744073709551500) (b2 : umax < 18446744073709551500) (b3 : umid < 18446744073709551500) (b4 : 1 ≤ umax)
    (k1 : (umin + od + 3) / 4 = dmn) (k2 : (umax - od) / 4 = dmx) (k3 : rnd umid = dmd) (r : Nat × Int)
    (hr : r = if dmn ≤ dmx / 10 * 10 then (dmx / 10, -(p - 1)) else if dmn < dmx then (dmd, -p) else (dmn, -p)) :
    Calls Tryd.prog 35 #[.int .u64 m, .int .i64 e] w fun y w' => y = .returned (.tuple #[.int .u64 r.1, .int .i64 r.2]) ∧ Below w.heap.size w w' := by
  have hod : od ≤ 1 := by omega
  have hm1 : mn ≤ m ∧ m ≤ mx := by omega
  have r1 := (row_facts i hi).1
  have r2 := (row_facts i hi).2.1
  have r3 := (row_facts i hi).2.2.1
  have hx1 : 18446744073709551616 ≤ mn * (row i).1 := by
    have := Nat.mul_le_mul hm0 r1
    omega
  have hx2 : 18446744073709551616 ≤ mx * (row i).1 := Nat.le_trans hx1 (Nat.mul_le_mul_right _ (by omega))
  have hx3 : 18446744073709551616 ≤ m * (row i).1 := Nat.le_trans hx1 (Nat.mul_le_mul_right _ (by omega))
  have hl := lpw_bounds p (by omega) (by omega)
  have hp1 : -348 ≤ p := by omega
  have hp2 : p < 348 := by omega
  have HP := Lib.hid hp
  have HS := Lib.hid hs
  have H1 := Lib.hid h1
  have H2 := Lib.hid h2
  have H3 := Lib.hid h3
  have K1 := Lib.hid k1
  have K2 := Lib.hid k2
  have K3 := Lib.hid k3
  have HR := Lib.hid hr
  have hw5 := ht.1
  have g1 := (ht.2 i hi).1
  have g2 := (ht.2 i hi).2
  generalize hRH : (row i).1 = RH at *
  generalize hRL : (row i).2 = RL at *
  have G1 := Lib.hid g1
  have G2 := Lib.hid g2
  obtain ⟨ulo, e1⟩ : ∃ v, umin + od = v := ⟨_, rfl⟩
  obtain ⟨uhi, e2⟩ : ∃ v, umax - od = v := ⟨_, rfl⟩
  have huhi : uhi ≤ umax := by omega
  have hulo : ulo ≤ umin + 1 := by omega
  rw [e1] at K1
  rw [e2] at K2
  have E1 := Lib.hid e1
  have E2' := Lib.hid e2
  have hdmx : dmx ≤ umax := by have := K2.out; omega
  clear hp hs h1 h2 h3 k1 k2 k3 hr ht g1 g2 e1 e2
  have T1 : ((m : Int) == 9223372036854775808) = false := by simp; omega
  have W3 : Hid ((e + 11) * 78913 / 262144 = -p) := by unfold Hid; omega
  have F4 : (m : Int) - 1024 = mn := by omega
  have F4' : IntKind.u64.wrap ((m : Int) - 1024) = mn := by rw [F4]; exact u64_wrap _ (by omega) (by omega)
  have F5 : (m : Int) + 1024 = mx := by omega
  have F6 : bits .and .i64 ((m : Int) / 2048) 1 = od := by
    have := and1i (m / 2048) (by omega)
    rw [← w6] at this
    exact this
  have hm512 : 1024 ≤ m := by omega
  clear w1 w3 w4 w5 w6
  go_enter Tryd.func35, Tryd.ntmps35
  go_wp2_with fail
  ((with_reducible refine (log10_named _ (-p) _ (by omega) (by omega) W3.out).mono ?_); rintro e' w' ⟨rfl, rfl⟩)
  go_wp2_with fail
  ((with_reducible refine (log2_named p (lpw p) _ (by omega) (by omega) rfl).mono ?_); rintro e' w' ⟨rfl, rfl⟩)
  go_wp2_with fail
  ((with_reducible refine (prescale_new e p (lpw p) i w _ hi HP.out (by omega) (by omega) (by omega) (by omega) (by rw [hRH]; exact G1.out) (by rw [hRL]; exact G2.out) hw5).mono ?_); rintro e' w1 ⟨rfl, hB, hz, d0, d1, d2⟩)
  rw [hRH] at d0
  rw [hRL] at d1
  rw [← HS.out] at d2
  go_wp2_with fail
  ((with_reducible refine (uscale_any mn w.heap.size RH RL s w1 (by omega) r2 r3 hs2 d0 d1 d2 hx1).mono ?_); rintro e' w' ⟨rfl, n1, rfl⟩)
  rw [H1.out]
  go_wp2_with fail
  ((with_reducible refine (nudge_posN umin od ulo _ (by omega) hod E1.out).mono ?_); rintro e' w' ⟨rfl, rfl⟩)
  go_wp2_with fail
  ((with_reducible refine (ceilN ulo dmn _ (by omega) K1.out).mono ?_); rintro e' w' ⟨rfl, rfl⟩)
  go_wp2_with fail
  ((with_reducible refine (uscale_any mx w.heap.size RH RL s (w1.drewN n1) (by omega) r2 r3 hs2 (by go_simp) (by go_simp) (by go_simp) hx2).mono ?_); rintro e' w' ⟨rfl, n2, rfl⟩)
  rw [H2.out]
  go_wp2_with fail
  ((with_reducible refine (nudge_negN umax od uhi _ (by omega) (by omega) hod E2'.out).mono ?_); rintro e' w' ⟨rfl, rfl⟩)
  go_wp2_with fail
  ((with_reducible refine (floorN uhi dmx _ (by omega) K2.out).mono ?_); rintro e' w' ⟨rfl, rfl⟩)
  go_wp2_with fail
  · have t : dmn ≤ dmx / 10 * 10 := by omega
    have hr := HR.out
    rw [if_pos t] at hr
    subst hr
    go_ret2
    exact ⟨rfl, below_drewN hB _⟩
  · have t : ¬ dmn ≤ dmx / 10 * 10 := by omega
    have t2 : dmn < dmx := by assumption
    have hr := HR.out
    rw [if_neg t, if_pos t2] at hr
    subst hr
    ((with_reducible refine (uscale_any m w.heap.size RH RL s _ (by omega) r2 r3 hs2 (by go_simp) (by go_simp) (by go_simp) hx3).mono ?_); rintro e' w' ⟨rfl, n3, rfl⟩)
    rw [H3.out]
    go_wp2_with fail
    ((with_reducible refine (roundN umid dmd _ (by omega) K3.out).mono ?_); rintro e' w' ⟨rfl, rfl⟩)
    go_wp2_with fail
    go_ret2
    exact ⟨rfl, by go_simp; exact below_drewN hB _⟩
  · have t : ¬ dmn ≤ dmx / 10 * 10 := by omega
    have t2 : ¬ dmn < dmx := by assumption
    have hr := HR.out
    rw [if_neg t, if_neg t2] at hr
    subst hr
    go_ret2
    exact ⟨rfl, below_drewN hB _⟩
theorem short_reg2 (m mn mx od s umin umax umid dmn dmx dmd i : Nat) (e p : Int) (w : World) (hm : m < 18446744073709551616) (hm0 : 4 ≤ mn) (hmx : mx < 18446744073709551616) (he : -1140 ≤ e) (he2 : e ≤ 970)
    (w1 : m = 9223372036854775808) (w1' : e = -1085) (w2 : -1085 ≤ e) (w3 : p = -((e + 11) * 78913 / 262144)) (w4 : mn + 1024 = m) (w5 : mx = m + 1024) (w6 : od = m / 2048 % 2) (ht : TabOk w) (hi : i < 696) (hp : p = (i : Int) - 348) (hs : (s : Int) = -(e + lpw p + 3)) (hs2 : s < 64)
    (h1 : us mn (row i).1 (row i).2 s = umin) (h2 : us mx (row i).1 (row i).2 s = umax) (h3 : us m (row i).1 (row i).2 s = umid)
    (b1 : umin < 18446744073709551500) (b2 : umax < 18446744073709551500) (b3 : umid < 18446744073709551500) (b4 : 1 ≤ umax)
    (k1 : (umin + od + 3) / 4 = dmn) (k2 : (umax - od) / 4 = dmx) (k3 : rnd umid = dmd) (r : Nat × Int)
    (hr : r = if dmn ≤ dmx / 10 * 10 then (dmx / 10, -(p - 1)) else if dmn < dmx then (dmd, -p) else (dmn, -p)) :
    Calls Tryd.prog 35 #[.int .u64 m, .int .i64 e] w fun y w' => y = .returned (.tuple #[.int .u64 r.1, .int .i64 r.2]) ∧ Below w.heap.size w w' := by
  have hod : od ≤ 1 := by omega
  have hm1 : mn ≤ m ∧ m ≤ mx := by omega
  have r1 := (row_facts i hi).1
  have r2 := (row_facts i hi).2.1
  have r3 := (row_facts i hi).2.2.1
  have hx1 : 18446744073709551616 ≤ mn * (row i).1 := by
    have := Nat.mul_le_mul hm0 r1
    omega
  have hx2 : 18446744073709551616 ≤ mx * (row i).1 := Nat.le_trans hx1 (Nat.mul_le_mul_right _ (by omega))
  have hx3 : 18446744073709551616 ≤ m * (row i).1 := Nat.le_trans hx1 (Nat.mul_le_mul_right _ (by omega))
  have hl := lpw_bounds p (by omega) (by omega)
  have hp1 : -348 ≤ p := by omega
  have hp2 : p < 348 := by omega
  have HP := Lib.hid hp
  have HS := Lib.hid hs
  have H1 := Lib.hid h1
  have H2 := Lib.hid h2
  have H3 := Lib.hid h3
  have K1 := Lib.hid k1
  have K2 := Lib.hid k2
  have K3 := Lib.hid k3
  have HR := Lib.hid hr
  have hw5 := ht.1
  have g1 := (ht.2 i hi).1
  have g2 := (ht.2 i hi).2
  generalize hRH : (row i).1 = RH at *
  generalize hRL : (row i).2 = RL at *
  have G1 := Lib.hid g1
  have G2 := Lib.hid g2
  obtain ⟨ulo, e1⟩ : ∃ v, umin + od = v := ⟨_, rfl⟩
  obtain ⟨uhi, e2⟩ : ∃ v, umax - od = v := ⟨_, rfl⟩
  have huhi : uhi ≤ umax := by omega
  have hulo : ulo ≤ umin + 1 := by omega
  rw [e1] at K1
  rw [e2] at K2
  have E1 := Lib.hid e1
  have E2' := Lib.hid e2
  have hdmx : dmx ≤ umax := by have := K2.out; omega
  clear hp hs h1 h2 h3 k1 k2 k3 hr ht g1 g2 e1 e2
  have T1 : ((m : Int) == 9223372036854775808) = true := by rw [w1]; rfl
  have T2 : decide (e > -1085) = false := decide_eq_false (by omega)
  have W3 : Hid ((e + 11) * 78913 / 262144 = -p) := by unfold Hid; omega
  have F4 : (m : Int) - 1024 = mn := by omega
  have F4' : IntKind.u64.wrap ((m : Int) - 1024) = mn := by rw [F4]; exact u64_wrap _ (by omega) (by omega)
  have F5 : (m : Int) + 1024 = mx := by omega
  have F6 : bits .and .i64 ((m : Int) / 2048) 1 = od := by
    have := and1i (m / 2048) (by omega)
    rw [← w6] at this
    exact this
  have hm512 : 1024 ≤ m := by omega
  clear w1 w1' w3 w4 w5 w6
  go_enter Tryd.func35, Tryd.ntmps35
  go_wp2_with fail
  ((with_reducible refine (log10_named _ (-p) _ (by omega) (by omega) W3.out).mono ?_); rintro e' w' ⟨rfl, rfl⟩)
  go_wp2_with fail
  ((with_reducible refine (log2_named p (lpw p) _ (by omega) (by omega) rfl).mono ?_); rintro e' w' ⟨rfl, rfl⟩)
  go_wp2_with fail
  ((with_reducible refine (prescale_new e p (lpw p) i w _ hi HP.out (by omega) (by omega) (by omega) (by omega) (by rw [hRH]; exact G1.out) (by rw [hRL]; exact G2.out) hw5).mono ?_); rintro e' w1 ⟨rfl, hB, hz, d0, d1, d2⟩)
  rw [hRH] at d0
  rw [hRL] at d1
  rw [← HS.out] at d2
  go_wp2_with fail
  ((with_reducible refine (uscale_any mn w.heap.size RH RL s w1 (by omega) r2 r3 hs2 d0 d1 d2 hx1).mono ?_); rintro e' w' ⟨rfl, n1, rfl⟩)
  rw [H1.out]
  go_wp2_with fail
  ((with_reducible refine (nudge_posN umin od ulo _ (by omega) hod E1.out).mono ?_); rintro e' w' ⟨rfl, rfl⟩)
  go_wp2_with fail
  ((with_reducible refine (ceilN ulo dmn _ (by omega) K1.out).mono ?_); rintro e' w' ⟨rfl, rfl⟩)
  go_wp2_with fail
  ((with_reducible refine (uscale_any mx w.heap.size RH RL s (w1.drewN n1) (by omega) r2 r3 hs2 (by go_simp) (by go_simp) (by go_simp) hx2).mono ?_); rintro e' w' ⟨rfl, n2, rfl⟩)
  rw [H2.out]
  go_wp2_with fail
  ((with_reducible refine (nudge_negN umax od uhi _ (by omega) (by omega) hod E2'.out).mono ?_); rintro e' w' ⟨rfl, rfl⟩)
  go_wp2_with fail
  ((with_reducible refine (floorN uhi dmx _ (by omega) K2.out).mono ?_); rintro e' w' ⟨rfl, rfl⟩)
  go_wp2_with fail
  · have t : dmn ≤ dmx / 10 * 10 := by omega
    have hr := HR.out
    rw [if_pos t] at hr
    subst hr
    go_ret2
    exact ⟨rfl, below_drewN hB _⟩
  · have t : ¬ dmn ≤ dmx / 10 * 10 := by omega
    have t2 : dmn < dmx := by assumption
    have hr := HR.out
    rw [if_neg t, if_pos t2] at hr
    subst hr
    ((with_reducible refine (uscale_any m w.heap.size RH RL s _ (by omega) r2 r3 hs2 (by go_simp) (by go_simp) (by go_simp) hx3).mono ?_); rintro e' w' ⟨rfl, n3, rfl⟩)
    rw [H3.out]
    go_wp2_with fail
    ((with_reducible refine (roundN umid dmd _ (by omega) K3.out).mono ?_); rintro e' w' ⟨rfl, rfl⟩)
    go_wp2_with fail
    go_ret2
    exact ⟨rfl, by go_simp; exact below_drewN hB _⟩
  · have t : ¬ dmn ≤ dmx / 10 * 10 := by omega
    have t2 : ¬ dmn < dmx := by assumption
    have hr := HR.out
    rw [if_neg t, if_neg t2] at hr
    subst hr
    go_ret2
    exact ⟨rfl, below_drewN hB _⟩
theorem short_sub (m mn mx od z s umin umax umid dmn dmx dmd i : Nat) (e p : Int) (w : World) (hm : m < 18446744073709551616) (hm0 : 4 ≤ mn) (hmx : mx < 18446744073709551616) (he : -1140 ≤ e) (he2 : e ≤ 970)
    (w0 : m ≠ 9223372036854775808) (w1 : e < -1085) (w2 : (z : Int) = -1074 - e) (w7 : z < 64) (w3 : p = 324) (w4 : mn + 2 ^ (z - 1) = m) (w5 : mx = m + 2 ^ (z - 1)) (w6 : od = m / 2 ^ z % 2) (ht : TabOk w) (hi : i < 696) (hp : p = (i : Int) - 348) (hs : (s : Int) = -(e + lpw p + 3)) (hs2 : s < 64)
    (h1 : us mn (row i).1 (row i).2 s = umin) (h2 : us mx (row i).1 (row i).2 s = umax) (h3 : us m (row i).1 (row i).2 s = umid)
    (b1 : umin < 18446744073709551500) (b2 : umax < 18446744073709551500) (b3 : umid < 18446744073709551500) (b4 : 1 ≤ umax)
    (k1 : (umin + od + 3) / 4 = dmn) (k2 : (umax - od) / 4 = dmx) (k3 : rnd umid = dmd) (r : Nat × Int)
    (hr : r = if dmn ≤ dmx / 10 * 10 then (dmx / 10, -(p - 1)) else if dmn < dmx then (dmd, -p) else (dmn, -p)) :
    Calls Tryd.prog 35 #[.int .u64 m, .int .i64 e] w fun y w' => y = .returned (.tuple #[.int .u64 r.1, .int .i64 r.2]) ∧ Below w.heap.size w w' := by
  have hod : od ≤ 1 := by omega
  have hm1 : mn ≤ m ∧ m ≤ mx := by have := Nat.two_pow_pos (z - 1); omega
  have r1 := (row_facts i hi).1
  have r2 := (row_facts i hi).2.1
  have r3 := (row_facts i hi).2.2.1
  have hx1 : 18446744073709551616 ≤ mn * (row i).1 := by
    have := Nat.mul_le_mul hm0 r1
    omega
  have hx2 : 18446744073709551616 ≤ mx * (row i).1 := Nat.le_trans hx1 (Nat.mul_le_mul_right _ (by omega))
  have hx3 : 18446744073709551616 ≤ m * (row i).1 := Nat.le_trans hx1 (Nat.mul_le_mul_right _ (by omega))
  have hl := lpw_bounds p (by omega) (by omega)
  have hp1 : -348 ≤ p := by omega
  have hp2 : p < 348 := by omega
  have HP := Lib.hid hp
  have HS := Lib.hid hs
  have H1 := Lib.hid h1
  have H2 := Lib.hid h2
  have H3 := Lib.hid h3
  have K1 := Lib.hid k1
  have K2 := Lib.hid k2
  have K3 := Lib.hid k3
  have HR := Lib.hid hr
  have hw5 := ht.1
  have g1 := (ht.2 i hi).1
  have g2 := (ht.2 i hi).2
  generalize hRH : (row i).1 = RH at *
  generalize hRL : (row i).2 = RL at *
  have G1 := Lib.hid g1
  have G2 := Lib.hid g2
  obtain ⟨ulo, e1⟩ : ∃ v, umin + od = v := ⟨_, rfl⟩
  obtain ⟨uhi, e2⟩ : ∃ v, umax - od = v := ⟨_, rfl⟩
  have huhi : uhi ≤ umax := by omega
  have hulo : ulo ≤ umin + 1 := by omega
  rw [e1] at K1
  rw [e2] at K2
  have E1 := Lib.hid e1
  have E2' := Lib.hid e2
  have hdmx : dmx ≤ umax := by have := K2.out; omega
  clear hp hs h1 h2 h3 k1 k2 k3 hr ht g1 g2 e1 e2
  have T1 : ((m : Int) == 9223372036854775808) = false := by simp; omega
  have T3 : decide (-1085 ≤ e) = false := decide_eq_false (by omega)
  subst w3
  have Z : 11 + (-1085 - e) = (z : Int) := by omega
  have Z0 : e + (z : Int) = -1074 := by omega
  have Z1 : (z : Int) - 1 = ((z - 1 : Nat) : Int) := by omega
  have hz12 : 12 ≤ z := by omega
  have hg : 2 ^ (z - 1) ≤ 4611686018427387904 := Nat.pow_le_pow_right (by decide) (show z - 1 ≤ 62 by omega)
  have hh : m / 2 ^ z < 9223372036854775808 := by
    have := Nat.div_le_div_left (a := m) (Nat.pow_le_pow_right (show 0 < 2 by decide) (show 12 ≤ z by omega)) (by decide)
    omega
  have Q : (m : Int) / 2 ^ z = ((m / 2 ^ z : Nat) : Int) := shr_cast m z
  have P0 : ((2 : Int) ^ (z - 1)) = ((2 ^ (z - 1) : Nat) : Int) := by push_cast; rfl
  generalize 2 ^ (z - 1) = g at *
  generalize m / 2 ^ z = h at *
  have P1 : IntKind.u64.wrap ((2 : Int) ^ (z - 1)) = (g : Int) := by rw [P0]; exact u64_wrap _ (by omega) (by omega)
  have F4 : (m : Int) - g = mn := by omega
  have F4' : IntKind.u64.wrap ((m : Int) - g) = mn := by rw [F4]; exact u64_wrap _ (by omega) (by omega)
  have F5 : (m : Int) + g = mx := by omega
  have F5' : IntKind.u64.wrap ((m : Int) + g) = mx := by rw [F5]; exact u64_wrap _ (by omega) (by omega)
  have F6 : bits .and .i64 (h : Int) 1 = od := by
    have := and1i h (by omega)
    rw [← w6] at this
    exact this
  clear w2 w4 w5 w6 P0
  go_enter Tryd.func35, Tryd.ntmps35
  go_wp2_with fail
  ((with_reducible refine (log10_named _ (-324) _ (by omega) (by omega) rfl).mono ?_); rintro e' w' ⟨rfl, rfl⟩)
  go_wp2_with fail
  ((with_reducible refine (log2_named 324 (lpw 324) _ (by omega) (by omega) rfl).mono ?_); rintro e' w' ⟨rfl, rfl⟩)
  go_wp2_with fail
  ((with_reducible refine (prescale_new e 324 (lpw 324) i w _ hi HP.out (by omega) (by omega) (by omega) (by omega) (by rw [hRH]; exact G1.out) (by rw [hRL]; exact G2.out) hw5).mono ?_); rintro e' w1 ⟨rfl, hB, hz, d0, d1, d2⟩)
  rw [hRH] at d0
  rw [hRL] at d1
  rw [← HS.out] at d2
  go_wp2_with fail
  ((with_reducible refine (uscale_any mn w.heap.size RH RL s w1 (by omega) r2 r3 hs2 d0 d1 d2 hx1).mono ?_); rintro e' w' ⟨rfl, n1, rfl⟩)
  rw [H1.out]
  go_wp2_with fail
  ((with_reducible refine (nudge_posN umin od ulo _ (by omega) hod E1.out).mono ?_); rintro e' w' ⟨rfl, rfl⟩)
  go_wp2_with fail
  ((with_reducible refine (ceilN ulo dmn _ (by omega) K1.out).mono ?_); rintro e' w' ⟨rfl, rfl⟩)
  go_wp2_with fail
  ((with_reducible refine (uscale_any mx w.heap.size RH RL s (w1.drewN n1) (by omega) r2 r3 hs2 (by go_simp) (by go_simp) (by go_simp) hx2).mono ?_); rintro e' w' ⟨rfl, n2, rfl⟩)
  rw [H2.out]
  go_wp2_with fail
  ((with_reducible refine (nudge_negN umax od uhi _ (by omega) (by omega) hod E2'.out).mono ?_); rintro e' w' ⟨rfl, rfl⟩)
  go_wp2_with fail
  ((with_reducible refine (floorN uhi dmx _ (by omega) K2.out).mono ?_); rintro e' w' ⟨rfl, rfl⟩)
  go_wp2_with fail
  · have t : dmn ≤ dmx / 10 * 10 := by omega
    have hr := HR.out
    rw [if_pos t] at hr
    subst hr
    go_ret2
    exact ⟨rfl, below_drewN hB _⟩
  · have t : ¬ dmn ≤ dmx / 10 * 10 := by omega
    have t2 : dmn < dmx := by assumption
    have hr := HR.out
    rw [if_neg t, if_pos t2] at hr
    subst hr
    ((with_reducible refine (uscale_any m w.heap.size RH RL s _ (by omega) r2 r3 hs2 (by go_simp) (by go_simp) (by go_simp) hx3).mono ?_); rintro e' w' ⟨rfl, n3, rfl⟩)
    rw [H3.out]
    go_wp2_with fail
    ((with_reducible refine (roundN umid dmd _ (by omega) K3.out).mono ?_); rintro e' w' ⟨rfl, rfl⟩)
    go_wp2_with fail
    go_ret2
    exact ⟨rfl, by go_simp; exact below_drewN hB _⟩
  · have t : ¬ dmn ≤ dmx / 10 * 10 := by omega
    have t2 : ¬ dmn < dmx := by assumption
    have hr := HR.out
    rw [if_neg t, if_neg t2] at hr
    subst hr
    go_ret2
    exact ⟨rfl, below_drewN hB _⟩
theorem short_sub2 (m mn mx od z s umin umax umid dmn dmx dmd i : Nat) (e p : Int) (w : World) (hm : m < 18446744073709551616) (hm0 : 4 ≤ mn) (hmx : mx < 18446744073709551616) (he : -1140 ≤ e) (he2 : e ≤ 970)
    (w0 : m = 9223372036854775808) (w1 : e < -1085) (w2 : (z : Int) = -1074 - e) (w7 : z < 64) (w3 : p = 324) (w4 : mn + 2 ^ (z - 1) = m) (w5 : mx = m + 2 ^ (z - 1)) (w6 : od = m / 2 ^ z % 2) (ht : TabOk w) (hi : i < 696) (hp : p = (i : Int) - 348) (hs : (s : Int) = -(e + lpw p + 3)) (hs2 : s < 64)
    (h1 : us mn (row i).1 (row i).2 s = umin) (h2 : us mx (row i).1 (row i).2 s = umax) (h3 : us m (row i).1 (row i).2 s = umid)
    (b1 : umin < 18446744073709551500) (b2 : umax < 18446744073709551500) (b3 : umid < 18446744073709551500) (b4 : 1 ≤ umax)
    (k1 : (umin + od + 3) / 4 = dmn) (k2 : (umax - od) / 4 = dmx) (k3 : rnd umid = dmd) (r : Nat × Int)
    (hr : r = if dmn ≤ dmx / 10 * 10 then (dmx / 10, -(p - 1)) else if dmn < dmx then (dmd, -p) else (dmn, -p)) :
    Calls Tryd.prog 35 #[.int .u64 m, .int .i64 e] w fun y w' => y = .returned (.tuple #[.int .u64 r.1, .int .i64 r.2]) ∧ Below w.heap.size w w' := by
  have hod : od ≤ 1 := by omega
  have hm1 : mn ≤ m ∧ m ≤ mx := by have := Nat.two_pow_pos (z - 1); omega
  have r1 := (row_facts i hi).1
  have r2 := (row_facts i hi).2.1
  have r3 := (row_facts i hi).2.2.1
  have hx1 : 18446744073709551616 ≤ mn * (row i).1 := by
    have := Nat.mul_le_mul hm0 r1
    omega
  have hx2 : 18446744073709551616 ≤ mx * (row i).1 := Nat.le_trans hx1 (Nat.mul_le_mul_right _ (by omega))
  have hx3 : 18446744073709551616 ≤ m * (row i).1 := Nat.le_trans hx1 (Nat.mul_le_mul_right _ (by omega))
  have hl := lpw_bounds p (by omega) (by omega)
  have hp1 : -348 ≤ p := by omega
  have hp2 : p < 348 := by omega
  have HP := Lib.hid hp
  have HS := Lib.hid hs
  have H1 := Lib.hid h1
  have H2 := Lib.hid h2
  have H3 := Lib.hid h3
  have K1 := Lib.hid k1
  have K2 := Lib.hid k2
  have K3 := Lib.hid k3
  have HR := Lib.hid hr
  have hw5 := ht.1
  have g1 := (ht.2 i hi).1
  have g2 := (ht.2 i hi).2
  generalize hRH : (row i).1 = RH at *
  generalize hRL : (row i).2 = RL at *
  have G1 := Lib.hid g1
  have G2 := Lib.hid g2
  obtain ⟨ulo, e1⟩ : ∃ v, umin + od = v := ⟨_, rfl⟩
  obtain ⟨uhi, e2⟩ : ∃ v, umax - od = v := ⟨_, rfl⟩
  have huhi : uhi ≤ umax := by omega
  have hulo : ulo ≤ umin + 1 := by omega
  rw [e1] at K1
  rw [e2] at K2
  have E1 := Lib.hid e1
  have E2' := Lib.hid e2
  have hdmx : dmx ≤ umax := by have := K2.out; omega
  clear hp hs h1 h2 h3 k1 k2 k3 hr ht g1 g2 e1 e2
  have T1 : ((m : Int) == 9223372036854775808) = true := by rw [w0]; rfl
  have T2 : decide (e > -1085) = false := decide_eq_false (by omega)
  have T3 : decide (-1085 ≤ e) = false := decide_eq_false (by omega)
  subst w3
  clear w0
  have Z : 11 + (-1085 - e) = (z : Int) := by omega
  have Z0 : e + (z : Int) = -1074 := by omega
  have Z1 : (z : Int) - 1 = ((z - 1 : Nat) : Int) := by omega
  have hz12 : 12 ≤ z := by omega
  have hg : 2 ^ (z - 1) ≤ 4611686018427387904 := Nat.pow_le_pow_right (by decide) (show z - 1 ≤ 62 by omega)
  have hh : m / 2 ^ z < 9223372036854775808 := by
    have := Nat.div_le_div_left (a := m) (Nat.pow_le_pow_right (show 0 < 2 by decide) (show 12 ≤ z by omega)) (by decide)
    omega
  have Q : (m : Int) / 2 ^ z = ((m / 2 ^ z : Nat) : Int) := shr_cast m z
  have P0 : ((2 : Int) ^ (z - 1)) = ((2 ^ (z - 1) : Nat) : Int) := by push_cast; rfl
  generalize 2 ^ (z - 1) = g at *
  generalize m / 2 ^ z = h at *
  have P1 : IntKind.u64.wrap ((2 : Int) ^ (z - 1)) = (g : Int) := by rw [P0]; exact u64_wrap _ (by omega) (by omega)
  have F4 : (m : Int) - g = mn := by omega
  have F4' : IntKind.u64.wrap ((m : Int) - g) = mn := by rw [F4]; exact u64_wrap _ (by omega) (by omega)
  have F5 : (m : Int) + g = mx := by omega
  have F5' : IntKind.u64.wrap ((m : Int) + g) = mx := by rw [F5]; exact u64_wrap _ (by omega) (by omega)
  have F6 : bits .and .i64 (h : Int) 1 = od := by
    have := and1i h (by omega)
    rw [← w6] at this
    exact this
  clear w2 w4 w5 w6 P0
  go_enter Tryd.func35, Tryd.ntmps35
  go_wp2_with fail
  ((with_reducible refine (log10_named _ (-324) _ (by omega) (by omega) rfl).mono ?_); rintro e' w' ⟨rfl, rfl⟩)
  go_wp2_with fail
  ((with_reducible refine (log2_named 324 (lpw 324) _ (by omega) (by omega) rfl).mono ?_); rintro e' w' ⟨rfl, rfl⟩)
  go_wp2_with fail
  ((with_reducible refine (prescale_new e 324 (lpw 324) i w _ hi HP.out (by omega) (by omega) (by omega) (by omega) (by rw [hRH]; exact G1.out) (by rw [hRL]; exact G2.out) hw5).mono ?_); rintro e' w1 ⟨rfl, hB, hz, d0, d1, d2⟩)
  rw [hRH] at d0
  rw [hRL] at d1
  rw [← HS.out] at d2
  go_wp2_with fail
  ((with_reducible refine (uscale_any mn w.heap.size RH RL s w1 (by omega) r2 r3 hs2 d0 d1 d2 hx1).mono ?_); rintro e' w' ⟨rfl, n1, rfl⟩)
  rw [H1.out]
  go_wp2_with fail
  ((with_reducible refine (nudge_posN umin od ulo _ (by omega) hod E1.out).mono ?_); rintro e' w' ⟨rfl, rfl⟩)
  go_wp2_with fail
  ((with_reducible refine (ceilN ulo dmn _ (by omega) K1.out).mono ?_); rintro e' w' ⟨rfl, rfl⟩)
  go_wp2_with fail
  ((with_reducible refine (uscale_any mx w.heap.size RH RL s (w1.drewN n1) (by omega) r2 r3 hs2 (by go_simp) (by go_simp) (by go_simp) hx2).mono ?_); rintro e' w' ⟨rfl, n2, rfl⟩)
  rw [H2.out]
  go_wp2_with fail
  ((with_reducible refine (nudge_negN umax od uhi _ (by omega) (by omega) hod E2'.out).mono ?_); rintro e' w' ⟨rfl, rfl⟩)
  go_wp2_with fail
  ((with_reducible refine (floorN uhi dmx _ (by omega) K2.out).mono ?_); rintro e' w' ⟨rfl, rfl⟩)
  go_wp2_with fail
  · have t : dmn ≤ dmx / 10 * 10 := by omega
    have hr := HR.out
    rw [if_pos t] at hr
    subst hr
    go_ret2
    exact ⟨rfl, below_drewN hB _⟩
  · have t : ¬ dmn ≤ dmx / 10 * 10 := by omega
    have t2 : dmn < dmx := by assumption
    have hr := HR.out
    rw [if_neg t, if_pos t2] at hr
    subst hr
    ((with_reducible refine (uscale_any m w.heap.size RH RL s _ (by omega) r2 r3 hs2 (by go_simp) (by go_simp) (by go_simp) hx3).mono ?_); rintro e' w' ⟨rfl, n3, rfl⟩)
    rw [H3.out]
    go_wp2_with fail
    ((with_reducible refine (roundN umid dmd _ (by omega) K3.out).mono ?_); rintro e' w' ⟨rfl, rfl⟩)
    go_wp2_with fail
    go_ret2
    exact ⟨rfl, by go_simp; exact below_drewN hB _⟩
  · have t : ¬ dmn ≤ dmx / 10 * 10 := by omega
    have t2 : ¬ dmn < dmx := by assumption
    have hr := HR.out
    rw [if_neg t, if_neg t2] at hr
    subst hr
    go_ret2
    exact ⟨rfl, below_drewN hB _⟩

theorem us_pos (x hi lo s : Nat) (h : 4611686018427387904 * 18446744073709551616 ≤ x * hi) (hs : s ≤ 60) : 1 ≤ us x hi lo s := by
  have hG := Nat.pow_le_pow_right (show 0 < 2 by decide) hs
  have hp := Nat.two_pow_pos s
  have key : ∀ H : Nat, 4611686018427387903 ≤ H → 1 ≤ H / 2 ^ s := fun H hH => (Nat.le_div_iff_mul_le hp).2 (by omega)
  unfold us
  generalize x * hi = P at *
  generalize x * lo = R at *
  have hb : ∀ a b : Nat, 1 ≤ a → 1 ≤ a ||| b := fun a b ha => Nat.le_trans ha Nat.left_le_or
  split
  · exact hb _ _ (key _ (by split <;> omega))
  · exact hb _ _ (key _ (by omega))

theorem short_right {mant : Nat} {q : Int} (hd : Dbl mant q) (z : Nat) (hz : z = 64 - Go.Lib.bitLen mant) (m : Nat) (hm : m = mant * 2 ^ z) (e : Int) (he : e = q - z) (w : World) (ht : TabOk w) :
    Calls Tryd.prog 35 #[.int .u64 m, .int .i64 e] w fun y w' => y = .returned (.tuple #[.int .u64 ((sfd mant q z).1 : Nat), .int .i64 (sfd mant q z).2]) ∧ Below w.heap.size w w' := by
  obtain ⟨m1, m2, m3, m4⟩ := mant_bits hd
  have hlo := hd.lo
  have hhi := hd.hi
  have hlt := hd.lt
  have hpos := hd.pos
  have hnorm := hd.norm
  obtain ⟨s1, s2⟩ := sh_all mant q hlo hhi
  obtain ⟨p1, p2⟩ := sp_range mant q hlo hhi
  have hi : ix (sp mant q) < 696 := by unfold ix; omega
  have hix : sp mant q = ((ix (sp mant q) : Nat) : Int) - 348 := (ix_eq _ (by omega)).symm
  have r1 := (row_facts _ hi).1
  have r2 := (row_facts _ hi).2.1
  have ez : 2 ^ z = 2 * 2 ^ (z - 1) := by
    rw [Nat.mul_comm, ← Nat.pow_succ]; congr 1; omega
  have ez2 : z ≥ 2 := by omega
  have ez3 : 2 ^ (z - 1) = 2 * 2 ^ (z - 2) := by
    rw [Nat.mul_comm, ← Nat.pow_succ]; congr 1; omega
  have t1 : m < 18446744073709551616 ∧ mant * 2 ^ z + 2 ^ z ≤ 18446744073709551616 := by
    have := Nat.mul_le_mul_right (2 ^ z) (show mant + 1 ≤ 2 ^ Go.Lib.bitLen mant from m4)
    rw [← Nat.pow_add, show Go.Lib.bitLen mant + z = 64 by omega, Nat.add_mul, Nat.one_mul] at this
    have := Nat.two_pow_pos z
    omega
  have t2 : 9223372036854775808 ≤ m := by
    have := Nat.mul_le_mul_right (2 ^ z) m3
    rw [← Nat.pow_add, show Go.Lib.bitLen mant - 1 + z = 63 by omega] at this
    omega
  have t3 : 2 ^ z ≤ m := by
    rw [hm]; exact Nat.le_mul_of_pos_left _ hpos
  have hg1 := Nat.two_pow_pos (z - 1)
  have hg2 := Nat.two_pow_pos (z - 2)
  have t4 : smin mant q z ≤ m ∧ m ≤ 2 * smin mant q z := by unfold smin; split <;> omega
  have t5 : smax mant z < 18446744073709551616 ∧ m ≤ smax mant z := by unfold smax; omega
  have hs1 : (((-(q - z + lpw (sp mant q) + 3)).toNat : Nat) : Int) = -(e + lpw (sp mant q) + 3) := by omega
  have hs2 : (-(q - z + lpw (sp mant q) + 3)).toNat ≤ 60 := by omega
  have hs3 : 1 ≤ (-(q - z + lpw (sp mant q) + 3)).toNat := by omega
  have b1 : usp (smin mant q z) (q - z) (sp mant q) < 18446744073709551500 := us_small _ _ _ _ hs3 (by omega) r2
  have b2 : usp (smax mant z) (q - z) (sp mant q) < 18446744073709551500 := us_small _ _ _ _ hs3 (by omega) r2
  have b3 : usp (mant * 2 ^ z) (q - z) (sp mant q) < 18446744073709551500 := us_small _ _ _ _ hs3 (by omega) r2
  have b4 : 1 ≤ usp (smax mant z) (q - z) (sp mant q) := by
    refine us_pos _ _ _ _ ?_ hs2
    have := Nat.mul_le_mul (Nat.le_trans t2 t5.2) r1
    omega
  have od : ∀ y, y = 2 ^ z → mant % 2 = m / y % 2 := by
    rintro y rfl
    rw [hm, Nat.mul_div_cancel _ (Nat.two_pow_pos z)]
  by_cases hirr : mant = 4503599627370496 ∧ q ≠ -1074
  · have hz11 : z = 11 := by rw [hz, hirr.1]; decide +kernel
    have k : smin mant q z + 512 = m := by unfold smin; rw [if_pos hirr, ← hm, hz11]; omega
    have k' : smax mant z = m + 1024 := by unfold smax; rw [← hm, hz11]
    refine short_irr m _ _ (mant % 2) _ _ _ _ _ _ _ (ix (sp mant q)) e (sp mant q) w t1.1 (by omega) (by omega) (by omega) (by omega) ?_ (by omega) ?_ k k' (od _ (by rw [hz11])) ht hi hix hs1 (by omega) rfl rfl (by rw [hm]; rfl) b1 b2 b3 b4 rfl rfl rfl (sfd mant q z) rfl
    · rw [hm, hz11, hirr.1]
    · unfold sp; rw [if_pos hirr]; omega
  · by_cases hsub : mant < 4503599627370496
    · have hq : q = -1074 := by omega
      have hz12 : 12 ≤ z := by
        have := Go.Lib.bitLen_le mant 52 (by omega) hsub
        omega
      have k : smin mant q z + 2 ^ (z - 1) = m := by unfold smin; rw [if_neg hirr, ← hm]; omega
      have k' : smax mant z = m + 2 ^ (z - 1) := by unfold smax; rw [← hm]
      have k3 : sp mant q = 324 := by unfold sp; rw [if_neg hirr, hq]; rfl
      by_cases h63 : m = 9223372036854775808
      · exact short_sub2 m _ _ (mant % 2) z _ _ _ _ _ _ _ (ix (sp mant q)) e (sp mant q) w t1.1 (by omega) (by omega) (by omega) (by omega) h63 (by omega) (by omega) (by omega) k3 k k' (od _ rfl) ht hi hix hs1 (by omega) rfl rfl (by rw [hm]; rfl) b1 b2 b3 b4 rfl rfl rfl (sfd mant q z) rfl
      · exact short_sub m _ _ (mant % 2) z _ _ _ _ _ _ _ (ix (sp mant q)) e (sp mant q) w t1.1 (by omega) (by omega) (by omega) (by omega) h63 (by omega) (by omega) (by omega) k3 k k' (od _ rfl) ht hi hix hs1 (by omega) rfl rfl (by rw [hm]; rfl) b1 b2 b3 b4 rfl rfl rfl (sfd mant q z) rfl
    · have hz11 : z = 11 := by
        have a := Go.Lib.bitLen_le mant 53 (by omega) hlt
        have b : 53 ≤ Go.Lib.bitLen mant := by
          refine Decidable.byContradiction fun h => ?_
          have := Nat.pow_le_pow_right (show 0 < 2 by decide) (show Go.Lib.bitLen mant ≤ 52 by omega)
          omega
        omega
      have k : smin mant q z + 1024 = m := by unfold smin; rw [if_neg hirr, ← hm, hz11]; omega
      have k' : smax mant z = m + 1024 := by unfold smax; rw [← hm, hz11]
      have k3 : sp mant q = -((e + 11) * 78913 / 262144) := by unfold sp; rw [if_neg hirr, show e + 11 = q by omega]
      by_cases h63 : m = 9223372036854775808
      · have hq : e = -1085 := by rw [hz11] at hm; omega
        exact short_reg2 m _ _ (mant % 2) _ _ _ _ _ _ _ (ix (sp mant q)) e (sp mant q) w t1.1 (by omega) (by omega) (by omega) (by omega) h63 hq (by omega) k3 k k' (od _ (by rw [hz11])) ht hi hix hs1 (by omega) rfl rfl (by rw [hm]; rfl) b1 b2 b3 b4 rfl rfl rfl (sfd mant q z) rfl
      · exact short_reg m _ _ (mant % 2) _ _ _ _ _ _ _ (ix (sp mant q)) e (sp mant q) w t1.1 (by omega) (by omega) (by omega) (by omega) h63 (by omega) k3 k k' (od _ (by rw [hz11])) ht hi hix hs1 (by omega) rfl rfl (by rw [hm]; rfl) b1 b2 b3 b4 rfl rfl rfl (sfd mant q z) rfl
end YtpefdgaijeefoaaDoor
end Go.Proofs

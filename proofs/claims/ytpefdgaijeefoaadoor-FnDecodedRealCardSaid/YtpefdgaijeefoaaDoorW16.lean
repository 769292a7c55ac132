/-
  special ON A NUMBER's TEXT: it is no special one. Conditions: a digit stands first, or behind the sign.
  By an AI agent. No person has read it.
-/
import Derived.Test.YtpefdgaijeefoaaDoorW14
namespace Go.Proofs
open Go.RowKit Go.Lib
namespace YtpefdgaijeefoaaDoor

theorem pre66 (t u : ByteArray) (c : Int) (n : Nat) (w : World) (hu : u.size = 8) (hub : bt u 0 = 105) (hn : t.size = n) (hn1 : 1 ≤ n) (hn2 : n ≤ 40) (hb : bt t 0 = c) (h1 : 48 ≤ c) (h2 : c ≤ 57) :
    Calls Tryd.prog 66 #[.string t, .string u] w fun e w' => e = .returned (.int .i64 0) ∧ w = w' := by
  have bts := get_bt t
  have btu := get_bt u
  have k1 : decide ((65 : Int) ≤ c) = false := decide_eq_false (by omega)
  have k2 : (c == 105) = false := by simp; omega
  have k3 : (c != 105) = true := by simp; omega
  have k4 : decide ((0 : Int) < min 8 (n : Int)) = true := decide_eq_true (by omega)
  go_enter Tryd.func66, Tryd.ntmps66
  go_wp2_with fail
  refine wp_loop_rounds 1 ?_
  rw [rounds_succ]
  go_wp2_with fail
  go_ret
  exact ⟨rfl, rfl⟩
theorem bt_extract (s : ByteArray) (n k : Nat) (hn : s.size = n) (hk : 1 + k < n) : bt (s.extract 1 n) k = bt s (1 + k) := by
  have hsz : (s.extract 1 n).size = n - 1 := by rw [ByteArray.size_extract]; omega
  unfold bt
  rw [dif_pos (by omega), dif_pos (by omega)]
  congr 1
  simp [ByteArray.getElem_extract]
theorem special_d (s : ByteArray) (c : Int) (n : Nat) (w : World) (hn : s.size = n) (hn1 : 1 ≤ n) (hb : bt s 0 = c) (h1 : 48 ≤ c) (h2 : c ≤ 57) :
    Calls Tryd.prog 58 #[.string s] w fun e w' => e = .returned (.tuple #[.float .f64 0, .int .i64 0, .bool false]) ∧ w = w' := by
  have bts := get_bt s
  have hn0 : decide (n = 0) = false := decide_eq_false (by omega)
  have n43 : (c == 43) = false := by simp; omega
  have n45 : (c == 45) = false := by simp; omega
  have n105 : (c == 105) = false := by simp; omega
  have n73 : (c == 73) = false := by simp; omega
  have n110 : (c == 110) = false := by simp; omega
  have n78 : (c == 78) = false := by simp; omega
  go_enter Tryd.func58, Tryd.ntmps58
  go_wp2_with fail
  go_returns
  exact ⟨rfl, rfl⟩
theorem special_n (s : ByteArray) (c : Int) (n : Nat) (w : World) (hn : s.size = n) (hn1 : 2 ≤ n) (hn2 : n ≤ 40) (hb0 : bt s 0 = 45) (hb : bt s 1 = c) (h1 : 48 ≤ c) (h2 : c ≤ 57) :
    Calls Tryd.prog 58 #[.string s] w fun e w' => e = .returned (.tuple #[.float .f64 0, .int .i64 0, .bool false]) ∧ w = w' := by
  have bts := get_bt s
  have hn0 : decide (n = 0) = false := decide_eq_false (by omega)
  have HN := Lib.hid hn
  have HB := Lib.hid hb
  clear hb
  go_enter Tryd.func58, Tryd.ntmps58
  go_wp2_with fail
  refine (pre66 (s.extract 1 n) ⟨#[105, 110, 102, 105, 110, 105, 116, 121]⟩ c (n - 1) w rfl rfl (by rw [ByteArray.size_extract, HN.out]; omega) (by omega) (by omega) (by rw [bt_extract s n 0 HN.out (by omega)]; exact HB.out) h1 h2).mono ?_
  rintro e' w' ⟨rfl, rfl⟩
  go_wp2_with fail
  go_returns
  exact ⟨rfl, rfl⟩
end YtpefdgaijeefoaaDoor
end Go.Proofs

/-
  setDigits AND numDigits, as ftoa64 calls them: the digits, the trailing zeros stripped. Conditions: the sizes that are named.
  By an AI agent. No person has read it.
-/
import Derived.Test.YtpefdgaijeefoaaDoorShelf
import Derived.Test.YtpefdgaijeefoaaDoorW6
import Derived.LoopTactic
namespace Go.Proofs
open Go.RowKit Go.Lib
namespace YtpefdgaijeefoaaDoor

/-- the number that a text of digits says. -/
def dv (L : List Int) : Nat := L.foldl (fun a c => a * 10 + (c - 48).toNat) 0
theorem dv_nil : dv [] = 0 := rfl
theorem dv_snoc (L : List Int) (c : Int) : dv (L ++ [c]) = dv L * 10 + (c - 48).toNat := by simp [dv, List.foldl_append]

/-- the digits of d, n of them. -/
def digs (d n : Nat) : List Int := (List.range n).map fun j => ((48 + d / 10 ^ (n - 1 - j) % 10 : Nat) : Int)
theorem digs_len (d n : Nat) : (digs d n).length = n := by simp [digs]
theorem digs_get (d n j : Nat) (h : j < n) : (digs d n).getD j 0 = ((48 + d / 10 ^ (n - 1 - j) % 10 : Nat) : Int) := by
  simp [digs, List.getD, h]
theorem digs_range (d n j : Nat) : 0 ≤ (digs d n).getD j 0 ∧ (digs d n).getD j 0 ≤ 57 := by
  by_cases h : j < n
  · rw [digs_get d n j h]
    have := Nat.mod_lt (d / 10 ^ (n - 1 - j)) (show 10 > 0 by decide)
    omega
  · rw [List.getD, List.getElem?_eq_none (by rw [digs_len]; omega)]
    decide
theorem take_snoc (ds : List Int) (k : Nat) (h : k < ds.length) : ds.take (k + 1) = ds.take k ++ [ds.getD k 0] := by
  rw [List.take_succ_eq_append_getElem h]
  simp [List.getD, List.getElem?_eq_getElem h]
theorem dv_take (d n : Nat) (hd : d < 10 ^ n) : ∀ j, j ≤ n → dv ((digs d n).take j) = d / 10 ^ (n - j)
  | 0, _ => by simp [dv_nil, Nat.div_eq_of_lt hd]
  | j + 1, h => by
    rw [take_snoc _ j (by rw [digs_len]; omega), dv_snoc, dv_take d n hd j (by omega), digs_get d n j (by omega)]
    rw [show n - j = n - 1 - j + 1 by omega, show n - (j + 1) = n - 1 - j by omega, Nat.pow_succ, ← Nat.div_div_eq_div_mul]
    omega
/-- a digit 0 at the end can go. -/
theorem strip_one (d n j : Nat) (hj : j + 1 ≤ n) (h : dv ((digs d n).take (j + 1)) * 10 ^ (n - (j + 1)) = d) (h0 : (digs d n).getD j 0 = 48) : dv ((digs d n).take j) * 10 ^ (n - j) = d := by
  have e : dv ((digs d n).take (j + 1)) = dv ((digs d n).take j) * 10 := by
    rw [take_snoc _ j (by rw [digs_len]; omega), dv_snoc, h0]; simp
  rw [show n - j = n - (j + 1) + 1 by omega, Nat.pow_succ, Nat.mul_comm (10 ^ (n - (j + 1))) 10, ← Nat.mul_assoc, ← e]
  exact h

theorem dg_int (u j : Nat) : ((dg u j).toNat : Int) = ((48 + u / 10 ^ j % 10 : Nat) : Int) := by
  unfold dg
  have := Nat.mod_lt (u / 10 ^ j) (show 10 > 0 by decide)
  rw [UInt8.toNat_ofNat']
  congr 1
  omega

theorem putRow_grown {α : Type} [Inhabited α] (enc : α → Value) (w : World) (B off n : Nat) (d : Array α) : w.grownBy ((Sort.putRow enc w B off d).drewN n) (some B) :=
  ⟨rfl, rfl, rfl, by simp, fun k _ hk => by
    rw [World.heap_drewN]
    simp only [Sort.putRow, Sort.mapBlock, Array.getElem?_modify]
    rw [if_neg (fun e => hk (by rw [e]))]⟩

/-- formatBase10 at 'buf[:nd]'. -/
theorem fb10 (B d nd : Nat) (w : World) (hb : ∀ j, j < nd → w.cell? ⟨B, j, none⟩ = some (.int .u8 0) ∧ w.frozen? ⟨B, j, none⟩ = false) (hd : d < 10 ^ nd) (hn : nd ≤ 17) (hd64 : d < 18446744073709551616) :
    Calls Tryd.prog 52 #[.slice (some ⟨B, 0, none⟩) nd 32, .int .u64 d] w fun e w' =>
      e = .returned (.tuple #[]) ∧ w.grownBy w' (some B) ∧ (∀ j, j < nd → w'.cell? ⟨B, j, none⟩ = some (.int .u8 ((digs d nd).getD j 0))) := by
  have hH : Sort.Holds (fun (b : UInt8) => Value.int .u8 (b.toNat : Int)) w B 0 (Array.replicate nd (0 : UInt8)) := by
    intro j hj
    have hj' : j < nd := by simpa using hj
    have := hb j hj'
    rw [Nat.zero_add]
    refine ⟨this.1.trans ?_, this.2⟩
    simp [hj']
  have h := Tryd.internal_strconv_formatBase10 B 0 32 d (Array.replicate nd 0) w hH (by simpa using hd) hd64 (by simp; omega)
  have hsz : (Array.replicate nd (0 : UInt8)).size = nd := by simp
  rw [hsz] at h
  refine h.mono ?_
  rintro e w' ⟨rfl, n, v', dk, rfl, hF⟩
  refine ⟨rfl, putRow_grown _ _ _ _ _ _, fun j hj => ?_⟩
  rw [World.cell?_drewN]
  have := Sort.cell?_putRow (fun (b : UInt8) => Value.int .u8 (b.toNat : Int)) w B 0 _ dk hH (by rw [hF.size]; simp) j (by rw [hF.size]; exact hj)
  rw [Nat.zero_add] at this
  rw [this, hF.done j (by omega) hj, dg_int, digs_get d nd j hj]

set_option maxRecDepth 100000 in
set_option maxHeartbeats 1600000 in
theorem set_digits (B d nd : Nat) (p : Int) (w : World) (hb : ∀ j, j < nd → w.cell? ⟨B, j, none⟩ = some (.int .u8 0) ∧ w.frozen? ⟨B, j, none⟩ = false) (h1 : 1 ≤ nd) (hd0 : 0 < d) (hd : d < 10 ^ nd) (hn : nd ≤ 17) (hp : -400 ≤ p) (hp2 : p ≤ 400) :
    Calls Tryd.prog 36 #[.slice (some ⟨B, 0, none⟩) 32 32, .int .u64 d, .int .i64 p, .int .i64 nd] w fun e w' =>
      ∃ j : Nat, 1 ≤ j ∧ j ≤ nd ∧ e = .returned (.tuple #[.int .i64 (nd + p), .int .i64 j]) ∧ w.grownBy w' (some B) ∧ (∀ i, i < nd → w'.cell? ⟨B, i, none⟩ = some (.int .u8 ((digs d nd).getD i 0))) ∧ dv ((digs d nd).take j) * 10 ^ (nd - j) = d := by
  have hd64 : d < 18446744073709551616 := by
    have := Nat.pow_le_pow_right (show 10 > 0 by decide) hn
    omega
  have H52 := Lib.hid (fb10 B d nd w hb hd hn hd64)
  have HD0 := Lib.hid hd0
  have HD := Lib.hid hd
  clear hb hd hd0
  go_enter Tryd.func36, Tryd.ntmps36
  go_wp2_with fail
  refine Calls.mono H52.out ?_
  rintro e' w1 ⟨rfl, hg, hc⟩
  have HG := Lib.hid hg
  have HC := Lib.hid hc
  clear hg hc H52
  go_wp2_with fail
  go_loopw [3] (fun s wx => ∃ j n : Nat, s = .int .i64 j ∧ j ≤ nd ∧ 1 ≤ j ∧ wx = w1.drewN n ∧ Hid (dv ((digs d nd).take j) * 10 ^ (nd - j) = d)) (fun s _ => (Lib.intOf s).toNat)
  case atStart => exact ⟨nd, 0, rfl, by omega, h1, rfl, by
    unfold Hid
    rw [dv_take d nd HD.out nd (Nat.le_refl _)]; simp⟩
  case round =>
    obtain ⟨j, n, rfl, hj, hj1, rfl, HI⟩ := hrel
    obtain ⟨j, rfl⟩ : ∃ i, j = i + 1 := ⟨j - 1, by omega⟩
    obtain ⟨c, hc⟩ : ∃ c, (digs d nd).getD j 0 = c := ⟨_, rfl⟩
    have D0 : w1.cell? ⟨B, j, none⟩ = some (.int .u8 c) := by have := HC.out j (by omega); rw [hc] at this; exact this
    by_cases h48 : c = 48
    · subst h48
      have HI2 : Hid (dv ((digs d nd).take j) * 10 ^ (nd - j) = d) := strip_one d nd j hj HI.out hc
      have hj0 : 1 ≤ j := by
        rcases Nat.eq_zero_or_pos j with h | h
        · subst h
          have := HI2.out
          have := HD0.out
          simp [dv_nil] at *
          omega
        · exact h
      clear hc HI
      go_wp2_with fail
      go_roundw
      case rel => exact ⟨j, n, by go_num, by omega, hj0, rfl, HI2⟩
      case measure => simp only [Lib.intOf]; omega
    · have h48' : (c == 48) = false := by simpa using h48
      clear hc
      go_wp2_with fail
      go_ret2
      exact ⟨j + 1, by omega, hj, rfl, grownBy_trans HG.out ⟨rfl, rfl, rfl, Nat.le_refl _, fun _ _ _ => rfl⟩, HC.out, HI.out⟩
end YtpefdgaijeefoaaDoor
end Go.Proofs

/-
  atof64 AND ParseFloat ON A NUMBER's TEXT. Conditions: the tables read as the library's text lays them; what readFloat and special gave.
  By an AI agent. No person has read it.
-/
import Derived.Test.YtpefdgaijeefoaaDoorW18
import Derived.Test.YtpefdgaijeefoaaDoorW15
import Derived.Test.YtpefdgaijeefoaaDoorW16
namespace Go.Proofs
open Go.RowKit Go.Lib Ieee
namespace YtpefdgaijeefoaaDoor

theorem T10_le (a b : Int) (h : a ≤ b) : T10 a ≤ T10 b := by
  unfold T10
  exact Nat.mul_le_mul_right _ (Nat.pow_le_pow_right (by decide) (by omega))
theorem E_le {mant : Nat} {q : Int} (hd : Dbl mant q) (M : Nat) (E : Int) (h0 : 0 < M) (h : InI mant q (M * T10 E)) : E ≤ 308 := by
  refine Decidable.byContradiction fun g => ?_
  have a := T10_le 309 E (by omega)
  have b := (T10_bounds 309 (by omega) (by omega)).1
  have c : lpw 309 = 1026 := by decide
  rw [c] at b
  have hlt := hd.lt
  have hhi := hd.hi
  have h2 := h.2
  have d := E2_mono (q - 2) 969 (by omega)
  have e := E2_add' 969 1026 57 (by omega) (by omega)
  have f0 : 4 * mant + 2 ≤ 36028797018963968 := by omega
  have f := Nat.mul_le_mul f0 d
  have g2 : T10 E ≤ M * T10 E := Nat.le_mul_of_pos_left _ h0
  have hp := E2_pos 969
  have e2 : (2 : Nat) ^ 57 = 144115188075855872 := by decide
  rw [e2] at e
  omega

/-- what special and readFloat give at a text. -/
structure Reads (s : ByteArray) (N M : Nat) (E : Int) (neg : Bool) : Prop where
  size : s.size = N
  lt : N ≤ 30
  sp : ∀ w, Calls Tryd.prog 58 #[.string s] w fun e w' => e = .returned (.tuple #[.float .f64 0, .int .i64 0, .bool false]) ∧ w = w'
  rf : ∀ w, Calls Tryd.prog 59 #[.string s] w fun e w' => e = .returned (.tuple #[.int .u64 M, .int .i64 E, .bool neg, .bool false, .bool false, .int .i64 N, .bool true]) ∧ w = w'

set_option maxRecDepth 100000 in
theorem at55 {mant : Nat} {q : Int} (hd : Dbl mant q) (s : ByteArray) (N M : Nat) (E : Int) (neg : Bool) (B : Nat) (w : World) (hB : Base2 B w) (hR : Reads s N M E neg) (h0 : 0 < M) (hM : M < 144115188075855872) (hE1 : -328 ≤ E) (h : InI mant q (M * T10 E)) :
    Calls Tryd.prog 55 #[.string s] w fun y w' => y = .returned (.tuple #[.float .f64 (sgn neg + rung mant q), .int .i64 N, .nilIface]) ∧ Below B w w' := by
  have hE2 := E_le hd M E h0 h
  have ex := Lib.hid (exact_right hd M E neg B w hB h0 (by omega) (by omega) (by omega) h)
  have ps := Lib.hid (parse_right hd M E neg w (by omega) (by omega) h0 hM h hB.base.ok)
  have opt := hB.base.opt
  have hsz := hB.base.sz
  have H58 := Lib.hid (hR.sp w)
  have H59 := Lib.hid (hR.rf w)
  have B57 := Lib.hid (bool2u_any neg w)
  have e61 := ext61
  clear hR hB h hd
  have k0 : ((M : Int) == 0) = false := by simp; omega
  have k1 : decide (310 < E) = false := decide_eq_false (by omega)
  have k2 : decide (E < -345) = false := decide_eq_false (by omega)
  cases neg
  all_goals
    go_enter Tryd.func55, Tryd.ntmps55
    go_wp2_with fail
    refine Calls.mono H58.out ?_
    rintro e' w' ⟨rfl, rfl⟩
    go_wp2_with fail
    refine Calls.mono H59.out ?_
    rintro e' w' ⟨rfl, rfl⟩
    go_wp2_with fail
    refine Calls.mono B57.out ?_
    rintro e' w' ⟨rfl, rfl⟩
    go_wp2_with fail
    refine Calls.mono ex.out ?_
    rintro e' w' ⟨⟨v, ok, rfl, hv⟩, rfl⟩
    cases ok
    · clear hv
      go_wp2_with fail
      refine Calls.mono ps.out ?_
      rintro e' w' ⟨rfl, hb⟩
      have HBW : Hid (Below B w w') := hb.mono hsz
      clear hb
      go_wp2_with fail
      go_returns
      exact ⟨rfl, HBW.out⟩
    · obtain rfl := hv rfl
      clear hv
      go_wp2_with fail
      go_returns
      exact ⟨rfl, Below.refl B w⟩
set_option maxRecDepth 100000 in
theorem at55_z (s : ByteArray) (N : Nat) (neg : Bool) (B : Nat) (w : World) (hB : Base2 B w) (hR : Reads s N 0 0 neg) :
    Calls Tryd.prog 55 #[.string s] w fun y w' => y = .returned (.tuple #[.float .f64 (sgn neg), .int .i64 N, .nilIface]) ∧ Below B w w' := by
  have opt := hB.base.opt
  have hsz := hB.base.sz
  have H58 := Lib.hid (hR.sp w)
  have H59 := Lib.hid (hR.rf w)
  have B57 := Lib.hid (bool2u_any neg w)
  have e61 := ext61
  clear hR hB
  cases neg
  all_goals
    go_enter Tryd.func55, Tryd.ntmps55
    go_wp2_with fail
    refine Calls.mono H58.out ?_
    rintro e' w' ⟨rfl, rfl⟩
    go_wp2_with fail
    refine Calls.mono H59.out ?_
    rintro e' w' ⟨rfl, rfl⟩
    go_wp2_with fail
    refine Calls.mono B57.out ?_
    rintro e' w' ⟨rfl, rfl⟩
    go_wp2_with fail
    go_returns
    exact ⟨rfl, Below.refl B w⟩

/-- what atof64 gives goes through parseFloatPrefix, ParseFloat, strconv.ParseFloat. -/
theorem at43 (s : ByteArray) (v N B : Nat) (w : World) (h : Calls Tryd.prog 55 #[.string s] w fun y w' => y = .returned (.tuple #[.float .f64 v, .int .i64 N, .nilIface]) ∧ Below B w w') :
    Calls Tryd.prog 43 #[.string s, .int .i64 64] w fun y w' => y = .returned (.tuple #[.float .f64 v, .int .i64 N, .nilIface]) ∧ Below B w w' := by
  have H := Lib.hid h
  clear h
  go_enter Tryd.func43, Tryd.ntmps43
  go_wp2_with fail
  refine Calls.mono H.out ?_
  rintro e' w' ⟨rfl, hb⟩
  have HB := Lib.hid hb
  clear hb
  go_wp2_with fail
  go_returns
  exact ⟨rfl, HB.out⟩
theorem at27 (s : ByteArray) (v N B : Nat) (w : World) (hN : s.size = N) (h : Calls Tryd.prog 43 #[.string s, .int .i64 64] w fun y w' => y = .returned (.tuple #[.float .f64 v, .int .i64 N, .nilIface]) ∧ Below B w w') :
    Calls Tryd.prog 27 #[.string s, .int .i64 64] w fun y w' => y = .returned (.tuple #[.float .f64 v, .nilIface]) ∧ Below B w w' := by
  have H := Lib.hid h
  clear h
  go_enter Tryd.func27, Tryd.ntmps27
  go_wp2_with fail
  refine Calls.mono H.out ?_
  rintro e' w' ⟨rfl, hb⟩
  have HB := Lib.hid hb
  clear hb
  go_wp2_with fail
  go_returns
  exact ⟨rfl, HB.out⟩
theorem at23 (s : ByteArray) (v B : Nat) (w : World) (h : Calls Tryd.prog 27 #[.string s, .int .i64 64] w fun y w' => y = .returned (.tuple #[.float .f64 v, .nilIface]) ∧ Below B w w') :
    Calls Tryd.prog 23 #[.string s, .int .i64 64] w fun y w' => y = .returned (.tuple #[.float .f64 v, .nilIface]) ∧ Below B w w' := by
  have H := Lib.hid h
  clear h
  go_enter Tryd.func23, Tryd.ntmps23
  go_wp2_with fail
  refine Calls.mono H.out ?_
  rintro e' w' ⟨rfl, hb⟩
  have HB := Lib.hid hb
  clear hb
  go_wp2_with fail
  go_returns
  exact ⟨rfl, HB.out⟩
end YtpefdgaijeefoaaDoor
end Go.Proofs

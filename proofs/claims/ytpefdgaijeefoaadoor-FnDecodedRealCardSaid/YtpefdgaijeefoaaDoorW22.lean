/-
  WHAT readFloat SCANS IN THE TEXTS THAT fmtEFG MAKES: plain lists. No condition.
  By an AI agent. No person has read it.
-/
import Derived.Test.YtpefdgaijeefoaaDoorW12
import Derived.Test.YtpefdgaijeefoaaDoorW19
namespace Go.Proofs
open Go.RowKit Go.Lib
namespace YtpefdgaijeefoaaDoor

/-- a list of digits. -/
def Dg (A : List Int) : Prop := ∀ c ∈ A, 48 ≤ c ∧ c ≤ 57
def dva (m : Nat) (A : List Int) : Nat := A.foldl (fun a c => a * 10 + (c - 48).toNat) m
theorem dv_dva (A : List Int) : dv A = dva 0 A := rfl
theorem dva_app (m : Nat) (A B : List Int) : dva m (A ++ B) = dva (dva m A) B := List.foldl_append
theorem dv_app (A B : List Int) : dv (A ++ B) = dva (dv A) B := List.foldl_append
theorem dva_zer (m : Nat) : ∀ k, dva m (zer k) = m * 10 ^ k
  | 0 => by simp [dva, zer]
  | k + 1 => by
    rw [← zer_succ, dva_app, dva_zer m k]
    simp [dva, Nat.pow_succ, Nat.mul_assoc]

theorem fold_dig : ∀ (A : List Int) (s : RS), Dg A → 0 < s.nd → s.dig = true → A.foldl stp s = ⟨dva s.man A, s.dot, true, s.nd + A.length, s.dp⟩
  | [], s, _, _, h => by
    cases s; cases h; rfl
  | c :: A, s, hA, hn, h => by
    have hc := hA c (by simp)
    have e : stp s c = ⟨s.man * 10 + (c - 48).toNat, s.dot, true, s.nd + 1, s.dp⟩ := by
      unfold stp
      rw [if_neg (by omega), if_neg (by omega)]
    rw [List.foldl_cons, e, fold_dig A _ (fun x hx => hA x (by simp [hx])) (by show 0 < s.nd + 1; omega) rfl]
    simp only [List.length_cons]
    rw [show s.nd + 1 + A.length = s.nd + (A.length + 1) by omega]
    rfl
/-- digits of which the first is not nought. -/
theorem fold_first (A : List Int) (s : RS) (hA : Dg A) (h1 : 1 ≤ A.length) (h0 : A.getD 0 0 ≠ 48) (hs : s.nd = 0) (hm : s.man = 0) : A.foldl stp s = ⟨dv A, s.dot, true, A.length, s.dp⟩ := by
  cases A with
  | nil => simp at h1
  | cons c A =>
    have hc := hA c (by simp)
    have h0' : c ≠ 48 := h0
    have e : stp s c = ⟨s.man * 10 + (c - 48).toNat, s.dot, true, s.nd + 1, s.dp⟩ := by
      unfold stp
      rw [if_neg (by omega), if_neg (by omega)]
    rw [List.foldl_cons, e, fold_dig A _ (fun x hx => hA x (by simp [hx])) (by show 0 < s.nd + 1; omega) rfl]
    simp only [List.length_cons, hs, hm]
    rw [show 0 + 1 + A.length = A.length + 1 by omega]
    rfl
theorem fold_zer (s : RS) (hs : s.nd = 0) (hd : s.dig = true) : ∀ k : Nat, (zer k).foldl stp s = ⟨s.man, s.dot, true, 0, s.dp - k⟩
  | 0 => by cases s; cases hs; cases hd; simp [zer]
  | k + 1 => by
    rw [← zer_succ, List.foldl_append, fold_zer s hs hd k]
    simp only [List.foldl_cons, List.foldl_nil, stp]
    rw [if_neg (by decide), if_pos (by simp)]
    congr 1
    omega

theorem Dg.app {A B : List Int} (a : Dg A) (b : Dg B) : Dg (A ++ B) := fun c hc => by
  rcases List.mem_append.1 hc with h | h
  · exact a c h
  · exact b c h
theorem Dg.zer (k : Nat) : Dg (zer k) := fun c hc => by
  have := List.eq_of_mem_replicate hc
  omega
theorem Dg.get {A : List Int} (a : Dg A) (k : Nat) (h : k < A.length) : 48 ≤ A.getD k 0 ∧ A.getD k 0 ≤ 57 := by
  rw [List.getD, List.getElem?_eq_getElem h]
  exact a _ (List.getElem_mem h)
theorem Mant.dig {A : List Int} (a : Dg A) : Mant A := fun k h => Or.inr (a.get k h)
theorem scan_dot_dig : ∀ (A : List Int) (s : RS), Dg A → (A.foldl stp s).dot = s.dot
  | [], _, _ => rfl
  | c :: A, s, h => by
    have hc := h c (by simp)
    rw [List.foldl_cons, scan_dot_dig A _ (fun x hx => h x (by simp [hx]))]
    unfold stp
    rw [if_neg (by omega)]
    split <;> rfl
/-- digits, a point, digits. -/
theorem Mant.pt {A C : List Int} (a : Dg A) (c : Dg C) : Mant (A ++ [46] ++ C) := fun k h => by
  rcases Nat.lt_trichotomy k A.length with g | g | g
  · right
    have : (A ++ [46] ++ C).getD k 0 = A.getD k 0 := by
      simp only [List.getD, List.append_assoc]
      rw [List.getElem?_append_left g]
    rw [this]
    exact a.get k g
  · left
    subst g
    constructor
    · simp [List.getD]
    · rw [List.append_assoc, List.take_left' rfl]
      exact scan_dot_dig A _ a
  · right
    have h2 : k - A.length - 1 < C.length := by simp at h; omega
    have : (A ++ [46] ++ C).getD k 0 = C.getD (k - A.length - 1) 0 := by
      simp only [List.getD]
      rw [List.getElem?_append_right (by simp; omega)]
      simp
      rw [show k - (A.length + 1) = k - A.length - 1 by omega]
    rw [this]
    exact c.get _ h2

theorem scan_f1 (T : List Int) (k : Nat) (hT : Dg T) (h1 : 1 ≤ T.length) (h0 : T.getD 0 0 ≠ 48) : scan (T ++ zer k) = ⟨dv T * 10 ^ k, false, true, T.length + k, 0⟩ := by
  have h0' : (T ++ zer k).getD 0 0 ≠ 48 := by
    simp only [List.getD] at h0 ⊢
    rw [List.getElem?_append_left (by omega)]
    exact h0
  unfold scan
  rw [fold_first _ _ (hT.app (Dg.zer k)) (by simp; omega) h0' rfl rfl, dv_app, dva_zer]
  simp [zer]
theorem scan_f2 (A C : List Int) (hA : Dg A) (hC : Dg C) (h1 : 1 ≤ A.length) (h0 : A.getD 0 0 ≠ 48) : scan (A ++ [46] ++ C) = ⟨dv (A ++ C), true, true, A.length + C.length, A.length⟩ := by
  unfold scan
  rw [List.foldl_append, List.foldl_append, fold_first A _ hA h1 h0 rfl rfl]
  simp only [List.foldl_cons, List.foldl_nil]
  have e : stp ⟨dv A, false, true, A.length, 0⟩ 46 = ⟨dv A, true, true, A.length, A.length⟩ := by
    unfold stp; rw [if_pos rfl]
  rw [e, fold_dig C _ hC (by show 0 < A.length; omega) rfl, dv_app]
theorem scan_f3 (T : List Int) (b : Nat) (hT : Dg T) (h1 : 1 ≤ T.length) (h0 : T.getD 0 0 ≠ 48) : scan ([48] ++ [46] ++ (zer b ++ T)) = ⟨dv T, true, true, T.length, -(b : Int)⟩ := by
  unfold scan
  rw [List.foldl_append]
  have e : ([48] ++ [46] : List Int).foldl stp ⟨0, false, false, 0, 0⟩ = ⟨0, true, true, 0, 0⟩ := by
    simp [stp]
  rw [e, List.foldl_append, fold_zer _ rfl rfl b, fold_first T _ hT h1 h0 rfl rfl]
  simp
theorem scan_one (A : List Int) (hA : Dg A) (h1 : 1 ≤ A.length) (h0 : A.getD 0 0 ≠ 48) : scan A = ⟨dv A, false, true, A.length, 0⟩ := by
  unfold scan
  rw [fold_first A _ hA h1 h0 rfl rfl]

theorem bt_str (L : List Int) (h : ∀ c ∈ L, 0 ≤ c ∧ c ≤ 255) (k : Nat) : bt (strOfNums L) k = L.getD k 0 := by
  unfold bt
  by_cases g : k < L.length
  · rw [dif_pos (by rw [strOfNums_size]; exact g)]
    have hc := h _ (List.getElem_mem g)
    have e : (strOfNums L)[k]'(by rw [strOfNums_size]; exact g) = UInt8.ofNat (L[k]).toNat := by
      show (strOfNums L).data[k]'_ = _
      simp [strOfNums]
    rw [e, List.getD, List.getElem?_eq_getElem g, UInt8.toNat_ofNat']
    simp only [Option.getD_some]
    omega
  · rw [dif_neg (by rw [strOfNums_size]; exact g), List.getD, List.getElem?_eq_none (by omega)]
    rfl

theorem getD_app_right (A C : List Int) (k : Nat) : (A ++ C).getD (A.length + k) 0 = C.getD k 0 := by
  simp only [List.getD]
  rw [List.getElem?_append_right (by omega)]
  simp
theorem getD_app_left (A C : List Int) (k : Nat) (h : k < A.length) : (A ++ C).getD k 0 = A.getD k 0 := by
  simp only [List.getD]
  rw [List.getElem?_append_left h]
theorem sg_len (neg : Bool) : (sgF neg).length = if neg then 1 else 0 := by cases neg <;> rfl
/-- the small letters of a text. -/
def Sm (L : List Int) : Prop := ∀ c ∈ L, 0 ≤ c ∧ c ≤ 255
theorem Sm.app {A C : List Int} (a : Sm A) (c : Sm C) : Sm (A ++ C) := fun x hx => by
  rcases List.mem_append.1 hx with h | h
  · exact a x h
  · exact c x h
theorem Dg.sm {A : List Int} (a : Dg A) : Sm A := fun c hc => by have := a c hc; omega
theorem Sm.sg (neg : Bool) : Sm (sgF neg) := by cases neg <;> (intro c hc; simp [sgF] at hc; try omega)

theorem sp_right (neg : Bool) (R : List Int) (hs : Sm R) (h1 : 1 ≤ R.length) (hl : R.length ≤ 29) (hc1 : 48 ≤ R.getD 0 0) (hc2 : R.getD 0 0 ≤ 57) (w : World) :
    Calls Tryd.prog 58 #[.string (strOfNums (sgF neg ++ R))] w fun e w' => e = .returned (.tuple #[.float .f64 0, .int .i64 0, .bool false]) ∧ w = w' := by
  have hb := bt_str (sgF neg ++ R) ((Sm.sg neg).app hs)
  have hl2 : (sgF neg ++ R).length = (sgF neg).length + R.length := List.length_append
  have hr := getD_app_right (sgF neg) R 0
  cases neg
  · exact special_d _ (R.getD 0 0) _ w (strOfNums_size _) (by rw [hl2]; omega) (by rw [hb]; rfl) hc1 hc2
  · exact special_n _ (R.getD 0 0) _ w (strOfNums_size _) (by rw [hl2, sg_len]; simp; omega) (by rw [hl2, sg_len]; simp; omega) (by rw [hb]; rfl) (by rw [hb]; exact hr) hc1 hc2

theorem reads_plain (neg : Bool) (L : List Int) (hs : Sm L) (h1 : 1 ≤ L.length) (hl : L.length ≤ 29) (hM : Mant L) (hnd : (scan L).nd ≤ 18) (hdig : (scan L).dig = true) (hx : L.getD 0 0 = 48 → 3 ≤ L.length → L.getD 1 0 = 46) (hc1 : 48 ≤ L.getD 0 0) (hc2 : L.getD 0 0 ≤ 57)
    (E : Int) (hE : E = if (scan L).man = 0 then 0 else (if (scan L).dot then (scan L).dp else (scan L).nd) - (scan L).nd) : Reads (strOfNums (sgF neg ++ L)) (sgF neg ++ L).length (scan L).man E neg := by
  have hb := bt_str (sgF neg ++ L) ((Sm.sg neg).app hs)
  have hl2 : (sgF neg ++ L).length = (sgF neg).length + L.length := List.length_append
  have hsl : (sgF neg).length ≤ 1 := by rw [sg_len]; split <;> omega
  refine ⟨strOfNums_size _, by omega, sp_right neg L hs h1 hl hc1 hc2, fun w => ?_⟩
  refine rf_plain _ _ (sgF neg).length neg L w (strOfNums_size _) (by omega) h1 hl2.symm ?_ (fun k hk => by rw [hb, getD_app_right]) hM hnd hdig hx (by omega) E hE
  cases neg
  · exact Or.inr ⟨rfl, rfl⟩
  · exact Or.inl ⟨rfl, rfl, by rw [hb]; rfl⟩

theorem reads_exp (neg eneg : Bool) (L X : List Int) (hs : Sm L) (h1 : 1 ≤ L.length) (hl : L.length ≤ 20) (hM : Mant L) (hnd : (scan L).nd ≤ 18) (hdig : (scan L).dig = true) (hc1 : 49 ≤ L.getD 0 0) (hc2 : L.getD 0 0 ≤ 57) (hman : 0 < (scan L).man)
    (hX : Dg X) (hX1 : 1 ≤ X.length) (hX3 : X.length ≤ 3)
    (E : Int) (hE : E = (if (scan L).dot then (scan L).dp else (scan L).nd) + (if eneg then -(dv X : Int) else dv X) - (scan L).nd) :
    Reads (strOfNums (sgF neg ++ (L ++ (101 :: (if eneg then 45 else 43) :: X)))) (sgF neg ++ (L ++ (101 :: (if eneg then 45 else 43) :: X))).length (scan L).man E neg := by
  obtain ⟨R, hR⟩ : ∃ R, L ++ (101 :: (if eneg then 45 else 43) :: X) = R := ⟨_, rfl⟩
  have hRl : R.length = L.length + 2 + X.length := by rw [← hR]; simp; omega
  have hRs : Sm R := by
    rw [← hR]
    refine hs.app ?_
    intro c hc
    rcases List.mem_cons.1 hc with rfl | hc
    · omega
    · rcases List.mem_cons.1 hc with rfl | hc
      · split <;> omega
      · exact hX.sm c hc
  have g0 : ∀ k, k < L.length → R.getD k 0 = L.getD k 0 := fun k hk => by rw [← hR]; exact getD_app_left _ _ k hk
  have g1 : R.getD L.length 0 = 101 := by have := getD_app_right L (101 :: (if eneg then 45 else 43) :: X) 0; rw [hR] at this; exact this
  have g2 : R.getD (L.length + 1) 0 = if eneg then 45 else 43 := by have := getD_app_right L (101 :: (if eneg then 45 else 43) :: X) 1; rw [hR] at this; exact this
  have g3 : ∀ k, R.getD (L.length + (k + 2)) 0 = X.getD k 0 := fun k => by have := getD_app_right L (101 :: (if eneg then 45 else 43) :: X) (k + 2); rw [hR] at this; exact this
  rw [hR]
  have hb := bt_str (sgF neg ++ R) ((Sm.sg neg).app hRs)
  have hl2 : (sgF neg ++ R).length = (sgF neg).length + R.length := List.length_append
  have hsl : (sgF neg).length ≤ 1 := by rw [sg_len]; split <;> omega
  have hbr : ∀ k, bt (strOfNums (sgF neg ++ R)) ((sgF neg).length + k) = R.getD k 0 := fun k => by rw [hb, getD_app_right]
  refine ⟨strOfNums_size _, by omega, sp_right neg R hRs (by omega) (by omega) (by rw [g0 0 h1]; omega) (by rw [g0 0 h1]; exact hc2), fun w => ?_⟩
  refine rf_exp _ _ (sgF neg).length ((sgF neg).length + L.length) neg eneg L X w (strOfNums_size _) (by omega) h1 rfl hX1 hX3 (by omega) (by rw [hbr]; exact g1) (by rw [Nat.add_assoc, hbr]; exact g2)
    (fun k _ => by rw [show (sgF neg).length + L.length + 2 + k = (sgF neg).length + (L.length + (k + 2)) by omega, hbr]; exact g3 k) (fun k hk => hX.get k hk) ?_ (fun k hk => by rw [hbr]; exact g0 k hk) hM hnd hdig (by omega) hman (by omega) E hE
  cases neg
  · exact Or.inr ⟨rfl, rfl⟩
  · exact Or.inl ⟨rfl, rfl, by rw [hb]; rfl⟩
end YtpefdgaijeefoaaDoor
end Go.Proofs

/-
  fmtEFG AT EVERY PLACE OF THE POINT: one contract. Conditions: the sizes that are named.
  By an AI agent. No person has read it.
-/
import Derived.Test.YtpefdgaijeefoaaDoorW7
import Derived.Test.YtpefdgaijeefoaaDoorW8
namespace Go.Proofs
open Go.RowKit Go.Lib
namespace YtpefdgaijeefoaaDoor

/-- the text of a number whose digits are the first nd of ds, the point behind dp of them. -/
def txt (neg : Bool) (nd : Nat) (ds : List Int) (dp : Int) : List Int :=
  if dp - 1 < -4 ∨ 6 ≤ dp - 1 then txtE neg nd ds (dp - 1)
  else if dp ≤ 0 then sgF neg ++ [48] ++ [46] ++ zer (-dp).toNat ++ ds.take nd
  else if (nd : Int) ≤ dp then sgF neg ++ ds.take nd ++ zer (dp.toNat - nd)
  else sgF neg ++ ds.take dp.toNat ++ [46] ++ (ds.take nd).drop dp.toNat

theorem fmt_any (D B nd : Nat) (neg : Bool) (dp : Int) (ds : List Int) (w : World) (hS : St w w D B 0 ds []) (h1 : 1 ≤ nd) (h17 : nd ≤ 17) (hds : nd ≤ ds.length) (hdp : -400 ≤ dp) (hdp2 : dp ≤ 400)
    (hdig : ∀ j, 0 ≤ ds.getD j 0 ∧ ds.getD j 0 ≤ 255) :
    Calls Tryd.prog 33 #[.slice (some ⟨D, 0, none⟩) 0 24, .bool neg, .slice (some ⟨B, 0, none⟩) 32 32, .int .i64 dp, .int .i64 nd, .int .i64 nd, .int .u8 103, .bool true] w fun e w' =>
      ∃ n, e = .returned (.slice (some ⟨D, 0, none⟩) n 24) ∧ St w w' D B n ds (txt neg nd ds dp) := by
  unfold txt
  by_cases h : dp - 1 < -4
  · rw [if_pos (Or.inl h)]
    exact fmt_e1 D B nd neg dp ds w hS h1 h17 hds hdp hdp2 h hdig
  · by_cases h2 : 6 ≤ dp - 1
    · rw [if_pos (Or.inr h2)]
      exact fmt_e2 D B nd neg dp ds w hS h1 h17 hds hdp hdp2 h2 hdig
    · rw [if_neg (by omega)]
      by_cases h3 : dp ≤ 0
      · rw [if_pos h3]
        obtain ⟨b, rfl⟩ : ∃ b : Nat, dp = -(b : Int) := ⟨(-dp).toNat, by omega⟩
        rw [show (-(-(b : Int))).toNat = b by omega]
        exact fmt_f3 D B nd b neg ds w hS h1 h17 hds (by omega) hdig
      · rw [if_neg h3]
        obtain ⟨a, rfl⟩ : ∃ a : Nat, dp = (a : Int) := ⟨dp.toNat, by omega⟩
        rw [show (a : Int).toNat = a by omega]
        by_cases h4 : (nd : Int) ≤ (a : Int)
        · rw [if_pos h4]
          exact fmt_f1 D B nd a neg ds w hS h1 h17 hds (by omega) (by omega) hdig
        · rw [if_neg h4]
          exact fmt_f2 D B nd a neg ds w hS (by omega) h17 hds (by omega) (by omega) hdig
end YtpefdgaijeefoaaDoor
end Go.Proofs

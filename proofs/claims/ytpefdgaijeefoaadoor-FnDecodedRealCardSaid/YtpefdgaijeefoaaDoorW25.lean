/-
  WHAT THE LISTED VARIABLES READ AS, AS THE WALKS WANT IT. Condition: the row's own reading of them.
  By an AI agent. No person has read it.
-/
import Derived.Test.YtpefdgaijeefoaaDoorW17
import Derived.Lib.AppendIntMem
import Derived.Test.YtpefdgaijeefoaaDoorRows
import Derived.Lib.LaidU8
namespace Go.Proofs
open Go.RowKit Go.Lib
namespace YtpefdgaijeefoaaDoor

section
variable {H : Type} {enc : TypeId × Value → H} {P : Program} {w : World} {base : Nat} {sp : Nat → Bool} {held : Bool}
theorem trod_flt {fuel : Nat} {t : TypeId} {k : FloatKind} {cs : List Value} {x : DataW H × List MemPlace} (ht : P.underlying t = some (.float k)) (h : DataW.trod enc P w base sp held fuel t cs = some x) :
    ∃ b, cs = [.float k b] ∧ x = (.lit (.float k b), []) := by
  cases fuel with
  | zero => simp [DataW.trod] at h
  | succ n =>
    unfold DataW.trod at h
    rw [ht] at h
    split at h <;> simp_all
end

theorem opt_of {w : World} (h : VarReads Tryd.prog w "internal/strconv.optimize" Go.Proofs.YtpefdgaijeefoaaDoor.Rows.laid_internal_strconv_optimize) : w.cell? ⟨1, 0, none⟩ = some (.bool true) := by
  obtain ⟨g, t, cs, fuel, p, hg, hty, hvar, hd⟩ := h
  obtain rfl := Option.some.inj ((show Tryd.prog.globalNamed "internal/strconv.optimize" = some 1 by kernel_rfl).symm.trans hg)
  obtain rfl := Option.some.inj ((show (Tryd.prog.globals[1]?).map (·.type) = some 4 by kernel_rfl).symm.trans hty)
  obtain ⟨b, hb, hx⟩ := DataW.trod_bool Tryd.underlying4 hd
  have hb2 : b = true := by
    have := congrArg Prod.fst hx
    simp [Go.Proofs.YtpefdgaijeefoaaDoor.Rows.laid_internal_strconv_optimize] at this
    first | exact this | exact this.symm
  rw [World.var?_cell hg hvar 0, ← Array.getElem?_toList, hb, hb2]
  rfl

theorem fi_of {w : World} (h : VarReads Tryd.prog w "internal/strconv.float64info" Go.Proofs.YtpefdgaijeefoaaDoor.Rows.laid_internal_strconv_float64info) : w.cell? ⟨4, 0, none⟩ = some (.int .u64 52) := by
  obtain ⟨g, t, cs, fuel, p, hg, hty, hvar, hd⟩ := h
  obtain rfl := Option.some.inj ((show Tryd.prog.globalNamed "internal/strconv.float64info" = some 4 by kernel_rfl).symm.trans hg)
  obtain rfl := Option.some.inj ((show (Tryd.prog.globals[4]?).map (·.type) = some 121 by kernel_rfl).symm.trans hty)
  obtain ⟨xs, n, rfl, hx, hl, hxl, hall⟩ := DataW.trod_struct Tryd.underlying121 hd
  have h0 := hall 0 _ rfl
  have hx3 : xs.map (·.1) = [.lit (.int .u64 52), .lit (.int .u64 11), .lit (.int .i64 (-1023))] := by
    have := congrArg Prod.fst hx
    simpa [Go.Proofs.YtpefdgaijeefoaaDoor.Rows.laid_internal_strconv_float64info] using this.symm
  change DataW.trod _ _ _ _ _ _ _ 93 ((cs.toList.drop 0).take (Tryd.prog.cellsOf 93)) = _ at h0
  rw [show Tryd.prog.cellsOf 93 = 1 by kernel_rfl] at h0
  obtain ⟨x0, hx0⟩ : ∃ x0, xs[0]? = some x0 := ⟨xs[0]'(by rw [hxl]; decide), List.getElem?_eq_getElem _⟩
  rw [hx0] at h0
  obtain ⟨z, hz, rfl, _⟩ := DataW.trod_int Tryd.underlying93 h0
  have e := congrArg (·[0]?) hx3
  simp [hx0] at e
  subst e
  have e2 := congrArg (·[0]?) hz
  simp only [List.getElem?_take, List.getElem?_drop] at e2
  rw [World.var?_cell hg hvar 0, ← Array.getElem?_toList]
  simpa using e2

theorem u64_of {w : World} (h : VarReads Tryd.prog w "internal/strconv.uint64pow10" Go.Proofs.YtpefdgaijeefoaaDoor.Rows.laid_internal_strconv_uint64pow10) : TabIs Tryd.prog w "internal/strconv.uint64pow10" .u64 Lib.pow10Tab := by
  obtain ⟨g, t, cs, fuel, p, hg, hty, hvar, hd⟩ := h
  obtain rfl := Option.some.inj ((show Tryd.prog.globalNamed "internal/strconv.uint64pow10" = some 2 by kernel_rfl).symm.trans hg)
  obtain rfl := Option.some.inj ((show (Tryd.prog.globals[2]?).map (·.type) = some 104 by kernel_rfl).symm.trans hty)
  have hd' : DataW.trod (fun _ => ()) Tryd.prog w 0 (fun _ => true) false fuel 104 cs.toList = some (tabData .u64 Lib.pow10Tab, p) := hd
  have hcs := cells_of_tab Tryd.underlying104 Tryd.underlying46 (show Tryd.prog.cellsOf 46 = 1 by kernel_rfl) (show Tryd.prog.cellsOf 104 = 20 by kernel_rfl) hd'
  unfold TabIs
  rw [hvar, ← hcs]
theorem p10_of {w : World} (h : VarReads Tryd.prog w "internal/strconv.pow10Tab" Go.Pinned.pow10Tab) (i : Nat) (hi : i < 696) :
    w.cell? ⟨3, i * 2, none⟩ = some (.int .u64 (row i).1) ∧ w.cell? ⟨3, i * 2 + 1, none⟩ = some (.int .u64 (row i).2) := by
  obtain ⟨g, t, cs, fuel, p, hg, hty, hvar, hd⟩ := h
  obtain rfl := Option.some.inj ((show Tryd.prog.globalNamed "internal/strconv.pow10Tab" = some 3 by kernel_rfl).symm.trans hg)
  obtain rfl := Option.some.inj ((show (Tryd.prog.globals[3]?).map (·.type) = some 110 by kernel_rfl).symm.trans hty)
  obtain ⟨fuel', d, q, hdi, he⟩ := array_elem Tryd.underlying110 hd i hi
  rw [show Tryd.prog.cellsOf 109 = 2 by kernel_rfl] at he
  have hd2 : d = .agg ([((row i).1 : Int), ((row i).2 : Int)].map fun z => .lit (.int .u64 z)) := by
    rw [List.getElem?_map] at hdi
    obtain ⟨r, hr, rfl⟩ := Option.map_eq_some_iff.1 hdi
    have : row i = r := by unfold row; rw [List.getD, hr]; rfl
    rw [this]
    rfl
  subst hd2
  have hcs := ints_of_struct Tryd.underlying109 (fun j f hj => by
    match j, hj with
    | 0, hj => simp at hj; subst hj; exact ⟨Tryd.underlying46, rfl, by kernel_rfl⟩
    | 1, hj => simp at hj; subst hj; exact ⟨Tryd.underlying46, rfl, by kernel_rfl⟩
    | j + 2, hj => simp at hj) (by kernel_rfl) he
  have e0 := congrArg (·[0]?) hcs
  have e1 := congrArg (·[1]?) hcs
  simp only [List.getElem?_take, List.getElem?_drop] at e0 e1
  constructor
  · rw [World.var?_cell hg hvar (i * 2), ← Array.getElem?_toList]
    simpa using e0
  · rw [World.var?_cell hg hvar (i * 2 + 1), ← Array.getElem?_toList]
    simpa using e1
theorem f10_of {w : World} (h : VarReads Tryd.prog w "internal/strconv.float64pow10" Go.Proofs.YtpefdgaijeefoaaDoor.Rows.laid_internal_strconv_float64pow10) :
    ∃ F o, F < w.heap.size ∧ w.cell? ⟨5, 0, none⟩ = some (.slice (some ⟨F, o, none⟩) 23 23) ∧ ∀ i, i < 23 → w.cell? ⟨F, o + i, none⟩ = some (.float .f64 (fpw i)) := by
  obtain ⟨g, t, cs, fuel, p, hg, hty, hvar, hd⟩ := h
  obtain rfl := Option.some.inj ((show Tryd.prog.globalNamed "internal/strconv.float64pow10" = some 5 by kernel_rfl).symm.trans hg)
  obtain rfl := Option.some.inj ((show (Tryd.prog.globals[5]?).map (·.type) = some 132 by kernel_rfl).symm.trans hty)
  rcases DataW.trod_slice Tryd.underlying132 hd with ⟨_, hx⟩ | ⟨a, len, cap, el, rs, m, _, hcs, hx, hbase, hlc, hcm, hel, hall, hrest⟩
  · cases hx
  have hel2 : el.map (·.1) = fpows.map fun b => (DataW.lit (.float .f64 b) : DataW Unit) := by
    have := congrArg Prod.fst hx
    simp only [Go.Proofs.YtpefdgaijeefoaaDoor.Rows.laid_internal_strconv_float64pow10] at this
    injection this with e1 e2
    exact e1.symm
  have hrs : rs = [] := by
    have := congrArg Prod.fst hx
    simp only [Go.Proofs.YtpefdgaijeefoaaDoor.Rows.laid_internal_strconv_float64pow10] at this
    injection this with e1 e2
    simpa using e2.symm
  have hl23 : len = 23 := by
    have := congrArg List.length hel2
    simp [fpows] at this
    omega
  subst hl23
  have hcap : cap = 23 := by
    have h1 := (hrest.1 rfl).1
    rw [hrs] at h1
    simp at h1
    omega
  subst hcap
  rw [show Tryd.prog.cellsOf 22 = 1 by kernel_rfl] at hall
  have hcell : ∀ i, i < 23 → w.cell? (a.add i) = some (.float .f64 (fpw i)) := by
    intro i hi
    have h1 := hall i hi
    rw [Nat.mul_one] at h1
    obtain ⟨y, hy⟩ : ∃ y, el[i]? = some y := ⟨el[i]'(by omega), List.getElem?_eq_getElem _⟩
    rw [hy] at h1
    obtain ⟨c, hc, hd2⟩ := Option.bind_eq_some_iff.1 h1
    obtain ⟨_, hl1, hc1⟩ := World.cells?_some hc
    obtain ⟨b, rfl, rfl⟩ := trod_flt Tryd.underlying22 hd2
    have h2 := hc1 0 (by omega)
    have e := congrArg (·[i]?) hel2
    simp [hy] at e
    have hb : b = fpw i := by
      have hlt : i < fpows.length := hi
      rw [List.getElem?_eq_getElem hlt] at e
      simp at e
      unfold fpw
      rw [List.getD, List.getElem?_eq_getElem hlt]
      simp [e]
    subst hb
    have ha : (a.add i).add 0 = a.add i := by unfold Addr.add; simp
    rw [ha] at h2
    exact h2
  have h0 := hcell 0 (by omega)
  have ha0 : a.add 0 = a := by unfold Addr.add; simp
  rw [ha0] at h0
  obtain ⟨F, o, spt⟩ := a
  have hsp : spt = none := cell_spot h0
  subst hsp
  refine ⟨F, o, ?_, ?_, fun i hi => ?_⟩
  · refine Decidable.byContradiction fun g => ?_
    have hno : w.heap[F]? = none := Array.getElem?_eq_none (by omega)
    simp [World.cell?, hno] at h0
  · rw [World.var?_cell hg hvar 0, ← Array.getElem?_toList, hcs]
    rfl
  · have hadd : (⟨F, o, none⟩ : Addr).add i = ⟨F, o + i, none⟩ := by
      unfold Addr.add
      by_cases h : i = 0
      · rw [if_pos h, h]; rfl
      · rw [if_neg h]
    rw [← hadd]
    exact hcell i hi
/-- all that the walks read. -/
theorem base2_of {w : World} (hL : laidMet Tryd.prog Go.Proofs.YtpefdgaijeefoaaDoor.Rows.fnDecodedRealRow.laid w) : Base2 w.heap.size w := by
  have h5 := f10_of (Lib.laidMet.reads hL (.tail _ (.tail _ (.head _))))
  have five : 5 < w.heap.size := by
    obtain ⟨F, o, _, h, _⟩ := h5
    refine Decidable.byContradiction fun g => ?_
    have hno : w.heap[5]? = none := Array.getElem?_eq_none (by omega)
    simp [World.cell?, hno] at h
  exact ⟨⟨five, Nat.le_refl _, p10_of (Lib.laidMet.reads hL (.tail _ (.tail _ (.tail _ (.tail _ (.head _)))))), tabBelow_of_tabIs (u64_of (Lib.laidMet.reads hL (.tail _ (.tail _ (.tail _ (.head _)))))), opt_of (Lib.laidMet.reads hL (.tail _ (.head _)))⟩, fi_of (Lib.laidMet.reads hL (.head _)), h5⟩
end YtpefdgaijeefoaaDoor
end Go.Proofs

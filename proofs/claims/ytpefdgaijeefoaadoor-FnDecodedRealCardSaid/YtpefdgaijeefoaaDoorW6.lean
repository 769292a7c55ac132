/-
  APPENDING WITHIN A ROW OF 24 BYTES: what each append of fmtEFG's does to the row, and that nothing else turns. No condition.
  By an AI agent. No person has read it.
-/
import Derived.Test.YtpefdgaijeefoaaDoorW5
import Derived.Laws.AppendOwn
import Derived.Laws.BytesArg
import Derived.OwnWalk
namespace Go.Proofs
open Go.RowKit Go.Lib
namespace YtpefdgaijeefoaaDoor

theorem info5 : (Tryd.prog.info? 5).map (fun i => (i.zero, i.size, i.bytes)) = some (some (.int .u8 0), 1, 1) := by kernel_rfl

/-- Block D holds a row of 24 bytes, of which the first n are L. -/
structure Row (w : World) (D n : Nat) (L : List Int) : Prop where
  len : L.length = n
  le : n ≤ 24
  row : ∃ cur : Array Value, w.heap[D]? = some (.cells cur 5 (0, 0)) ∧ cur.size = 24 ∧ cur.toList.take n = L.map (Value.int .u8)
theorem Row.kept {w w' : World} {D n : Nat} {L : List Int} (h : Row w D n L) (hb : w'.heap[D]? = w.heap[D]?) : Row w' D n L := by
  obtain ⟨a, b, cur, c, d, e⟩ := h
  exact ⟨a, b, cur, by rw [hb]; exact c, d, e⟩
theorem Row.lt {w : World} {D n : Nat} {L : List Int} (h : Row w D n L) : D < w.heap.size := by
  obtain ⟨_, _, cur, c, _, _⟩ := h
  exact (Array.getElem?_eq_some_iff.1 c).1
theorem Row.cell {w : World} {D n : Nat} {L : List Int} (h : Row w D n L) (i : Nat) (hi : i < n) : w.cell? ⟨D, i, none⟩ = some (.int .u8 (L.getD i 0)) := by
  obtain ⟨a, b, cur, c, d, e⟩ := h
  have := cell_of_row w D i cur 5 (0, 0) c
  rw [this]
  have h1 : (cur.toList.take n)[i]? = cur[i]? := by
    rw [List.getElem?_take, if_pos hi]; simp
  rw [← h1, e]
  simp [List.getD, show i < L.length by omega]

/-- The state of a printing: the row, the digits in block B, all other old blocks as they were. -/
structure St (w0 w : World) (D B n : Nat) (ds : List Int) (L : List Int) : Prop where
  row : Row w D n L
  hD : D < w0.heap.size
  hB : B < w0.heap.size
  ne : B ≠ D
  dig : ∀ j, j < ds.length → w.cell? ⟨B, j, none⟩ = some (.int .u8 (ds.getD j 0))
  kept : w0.grownBy w (some D)

theorem St.size {w0 w : World} {D B n : Nat} {ds L : List Int} (h : St w0 w D B n ds L) : w0.heap.size ≤ w.heap.size := h.kept.size
theorem grownBy_trans {a b c : World} {r : Option Nat} (h : a.grownBy b r) (k : b.grownBy c r) : a.grownBy c r :=
  ⟨k.os.trans h.os, k.tape.trans h.tape, k.output.trans h.output, Nat.le_trans h.size k.size, fun i hi hr => (k.block i (Nat.lt_of_lt_of_le hi h.size) hr).trans (h.block i hi hr)⟩
theorem St.step {w0 w w' : World} {D B n n' : Nat} {ds L L' : List Int} (h : St w0 w D B n ds L) (hg : w.grownBy w' (some D)) (hr : Row w' D n' L') : St w0 w' D B n' ds L' := by
  refine ⟨hr, h.hD, h.hB, h.ne, fun j hj => ?_, grownBy_trans h.kept hg⟩
  have hb : w'.heap[B]? = w.heap[B]? := hg.block B (Nat.lt_of_lt_of_le h.hB h.size) (by simp [h.ne])
  rw [World.cell?_of_block (a := ⟨B, j, none⟩) hb]
  exact h.dig j hj
theorem St.alloc {w0 w : World} {D B n : Nat} {ds L : List Int} (h : St w0 w D B n ds L) (o : Obj) : St w0 (w.alloc o) D B n ds L :=
  h.step (World.grownBy_alloc w o _) (h.row.kept (Below.heap_alloc w o D h.row.lt))

theorem oneCell_u8 (n : Int) : (Value.int .u8 n).oneCell' = true := rfl

/-- append(dst, news...) where there is room. -/
theorem wpList_push {ops : Array Oper} {rest : List Oper} {o : Oper} {a : Act} {Q : Exit → Act → World → Prop} {w0 w : World} {D B n : Nat} {ds L : List Int} (N : List Int) (m : Nat) (hgd : o.guard = none) (s x : Operand)
    (ho : o.op = .call { callee := .builtin .append, args := #[s, x], argTypes := #[39, 39] }) (hs : a.eval s = .slice (some ⟨D, 0, none⟩) n 24) (hS : St w0 w D B n ds L)
    (ad : Addr) (c : Nat) (hx : a.eval x = .slice (some ad) m c) (hm : N.length = m) (hn : ∀ j u, (N.map (Value.int .u8))[j]? = some u → w.cell? (ad.add j) = some u) (hroom : n + m ≤ 24)
    (h : ∀ w', St w0 w' D B (n + m) ds (L ++ N) → wpList Tryd.prog ops Q rest (a.put o.dst (.slice (some ⟨D, 0, none⟩) (n + m) 24)) w') : wpList Tryd.prog ops Q (o :: rest) a w := by
  refine wpList_plain hgd fun _ hK => ?_
  obtain ⟨i0, hi, hz0, hz1, hz2⟩ := info_parts info5
  obtain ⟨hlen, hle, cur, hg, hsz, htk⟩ := hS.row
  have hr := run_append_room (P := Tryd.prog) w 39 o.type 5 i0 Tryd.underlying39 hi D n 24 cur hg ad m c (N.map (Value.int .u8)) (by rw [hz1]; simp [hm]) hn (by simp [oneCell_u8]) hroom (by rw [hz1]; simp [hm]; omega)
  unfold Oper.wp execOp
  simp only [ho, resolve, invoke, builtin, Sem.run_bind, Sem.run_pure, Result.andThen_ok, List.map_toArray, List.map_cons, List.map_nil, hs, hx, hr]
  refine hK _ _ (h _ (hS.step ⟨rfl, rfl, rfl, by simp [World.setRow], fun k _ hk => setRow_other w D k _ (fun e => hk (by simp [e]))⟩ ⟨by simp [hlen, hm], hroom, _, setRow_heap w D cur _ 5 _ hg, ?_, ?_⟩))
  · rw [hz1]; simp [hm, hsz]; omega
  · rw [hz1, Nat.mul_one]
    simp only [List.length_map, hm]
    rw [htk, ← List.map_append, List.take_left' (by simp [hlen, hm])]

/-- append(dst, c..) of new bytes. -/
theorem wpList_pushN {ops : Array Oper} {rest : List Oper} {o : Oper} {a : Act} {Q : Exit → Act → World → Prop} {w0 w : World} {D B n : Nat} {ds L : List Int} (N : List Int) (m : Nat) (T : TypeId) (hgd : o.guard = none) (s x : Operand)
    (ho : o.op = .call { callee := .builtin .append, args := #[s, x], argTypes := #[39, 39] }) (hs : a.eval s = .slice (some ⟨D, 0, none⟩) n 24) (hS : St w0 w D B n ds L)
    (c : Nat) (hx : a.eval x = .slice (some ⟨w.heap.size, 0, none⟩) m c) (hm : N.length = m) (hroom : n + m ≤ 24)
    (h : ∀ w', St w0 w' D B (n + m) ds (L ++ N) → wpList Tryd.prog ops Q rest (a.put o.dst (.slice (some ⟨D, 0, none⟩) (n + m) 24)) w') : wpList Tryd.prog ops Q (o :: rest) a (w.alloc (.cells (N.map (Value.int .u8)).toArray T (0, 0))) := by
  refine wpList_push N m hgd s x ho hs (hS.alloc _) _ c hx hm ?_ hroom h
  intro j u hu
  have hadd : (⟨w.heap.size, 0, none⟩ : Addr).add j = ⟨w.heap.size, j, none⟩ := by unfold Addr.add; split <;> simp_all
  rw [hadd, World.cell?_alloc_new]
  simpa using hu
end YtpefdgaijeefoaaDoor
end Go.Proofs

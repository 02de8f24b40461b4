/-
  Shared by the two laws over a slice: what the copying loop has done when k elements are copied; the element type's row; the two early ways out.
-/
import Derived.Test.YoebwwSearch
import Derived.Deep.OwnRows
namespace Go.Proofs.Yoebww
open Go.RowKit

theorem Ebwg.info3 : (Ebwg.prog.info? 3).map (fun i => (i.zero, i.size, i.bytes)) = some (some (.int .i64 0), 1, 8) := by kernel_rfl

/-- 'b[0..k) = a[0..k)' is done: nothing that was there has turned; the first new block is the row b. -/
structure Copied (w wr : World) (n : Nat) (z : Nat → Int) (k : Nat) : Prop where
  below : Below w.heap.size w wr
  row : wr.rowIs w.heap.size 3 n (fun i => if i < k then .int .i64 (z i) else .int .i64 0)

theorem copied_start (w : World) (n : Nat) (z : Nat → Int) : Copied w (w.alloc (.cells (madeCells #[.int .i64 0] n) 3)) n z 0 :=
  ⟨(Below.refl _ _).alloc (Nat.le_refl _) _, (World.rowIs_made w _ n 3).congr (fun j _ => by simp)⟩

theorem copied_step {w wr : World} {n : Nat} {z : Nat → Int} {k : Nat} (h : Copied w wr n z k) : Copied w (wr.setCell ⟨w.heap.size, k, none⟩ (.int .i64 (z k))) n z (k + 1) := by
  refine ⟨h.below.setCell (Nat.le_refl _) _, (h.row.set k _).congr (fun j _ => ?_)⟩
  by_cases e : j = k
  · subst e; simp
  · rw [if_neg e]
    by_cases hlt : j < k
    · rw [if_pos hlt, if_pos (by omega)]
    · rw [if_neg hlt, if_neg (by omega)]

theorem copied_cell {w wr : World} {n : Nat} {z : Nat → Int} (h : Copied w wr n z n) (j : Nat) (hj : j < n) : wr.cell? ⟨w.heap.size, j, none⟩ = some (.int .i64 (z j)) := by
  have := h.row.cell hj
  simpa [hj] using this

theorem copied_old {w wr : World} {n : Nat} {z : Nat → Int} {k : Nat} (h : Copied w wr n z k) {p : Addr} {v : Value} (hp : w.cell? p = some v) : wr.cell? p = some v := by
  have hb : p.block < w.heap.size := by
    unfold World.cell? at hp
    by_cases hlt : p.block < w.heap.size
    · exact hlt
    · rw [Array.getElem?_eq_none (by omega)] at hp; simp at hp
  rw [h.below.cell hb]; exact hp

theorem copied_made {w wr : World} {n : Nat} {z : Nat → Int} {k : Nat} (h : Copied w wr n z k) (hk : k < n) : wr.cell? ⟨w.heap.size, k, none⟩ = some (.int .i64 0) ∧ wr.frozen? ⟨w.heap.size, k, none⟩ = false := by
  refine ⟨?_, h.row.frozen k⟩
  have := h.row.cell hk
  simpa using this

#print axioms copied_step
end Go.Proofs.Yoebww

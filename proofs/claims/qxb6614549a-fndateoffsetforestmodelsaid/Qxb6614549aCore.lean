import Derived.Test.Qxb6614549aSmall
namespace Go.Proofs.Qxb6614549a
open Go.RowKit

theorem info33 : (Try.prog.info? 33).map (fun i => (i.zero, i.size, i.bytes)) = some (some (.int .u32 0), 1, 4) := by kernel_rfl
theorem info30 : (Try.prog.info? 30).map (fun i => (i.zero, i.size, i.bytes)) = some (some (.int .u64 0), 1, 8) := by kernel_rfl
theorem info3 : (Try.prog.info? 3).map (fun i => (i.zero, i.size, i.bytes)) = some (some (.int .i64 0), 1, 8) := by kernel_rfl

/-- The graph's nine cells. -/
def graphObj (tv pv sv gv cv : Value) : Obj := .cells #[.slice none 0 0, .slice none 0 0, tv, pv, sv, gv, cv, .int .i64 0, .int .i64 0] 49 (0, 0)

theorem graph_cells {w : World} {G : Nat} {tv pv sv gv cv : Value} (h : w.heap[G]? = some (graphObj tv pv sv gv cv)) :
    w.cell? ⟨G, 2, none⟩ = some tv ∧ w.cell? ⟨G, 3, none⟩ = some pv ∧ w.cell? ⟨G, 4, none⟩ = some sv ∧ w.cell? ⟨G, 5, none⟩ = some gv ∧ w.cell? ⟨G, 6, none⟩ = some cv := by
  unfold graphObj at h
  simp [World.cell?, h]

theorem graph_free {w : World} {G : Nat} {tv pv sv gv cv : Value} (h : w.heap[G]? = some (graphObj tv pv sv gv cv)) (j : Nat) : w.frozen? ⟨G, j, none⟩ = false := by
  unfold graphObj at h
  simp [World.frozen?, h]

/-- What holds of the world in the rounds of 'number': the graph's block G; the generations in block B, the corrected dates in block B + 1. -/
structure Core (w0 w : World) (G n : Nat) (tv pv sv : Value) (ge co : Nat → Int) : Prop where
  below : Below G w0 w
  size : w0.heap.size + 2 ≤ w.heap.size
  lt : G < w0.heap.size
  gblk : w.heap[G]? = some (graphObj tv pv sv (.slice (some ⟨w0.heap.size, 0, none⟩) n n) (.slice (some ⟨w0.heap.size + 1, 0, none⟩) n n))
  gens : w.rowIs w0.heap.size 33 n (fun j => .int .u32 (ge j))
  cors : w.rowIs (w0.heap.size + 1) 30 n (fun j => .int .u64 (co j))

theorem Core.later {w0 w w' : World} {G n : Nat} {tv pv sv : Value} {ge co : Nat → Int} (h : Core w0 w G n tv pv sv ge co) (hb : Below (w0.heap.size + 2) w w') : Core w0 w' G n tv pv sv ge co := by
  have hl := h.lt
  have hs := hb.size
  have hs0 := h.size
  exact ⟨h.below.trans (hb.mono (by omega)), by omega, hl, (hb.block G (by omega)).trans h.gblk, h.gens.of_block (hb.block _ (by omega)), h.cors.of_block (hb.block _ (by omega))⟩

theorem Core.setGen {w0 w : World} {G n : Nat} {tv pv sv : Value} {ge co : Nat → Int} (h : Core w0 w G n tv pv sv ge co) (k : Nat) (x : Int) :
    Core w0 (w.setCell ⟨w0.heap.size, k, none⟩ (.int .u32 x)) G n tv pv sv (fun j => if j = k then x else ge j) co := by
  have hl := h.lt
  refine ⟨h.below.setCell (by simp; omega) _, by have := h.size; simpa [World.setCell] using this, hl, ?_, ?_, ?_⟩
  · rw [Below.heap_setCell _ _ _ _ (by simp; omega)]; exact h.gblk
  · refine (h.gens.set k (.int .u32 x)).congr ?_
    intro j _
    by_cases e : j = k <;> simp [e]
  · exact h.cors.setOther (by simp) _

theorem Core.setCor {w0 w : World} {G n : Nat} {tv pv sv : Value} {ge co : Nat → Int} (h : Core w0 w G n tv pv sv ge co) (k : Nat) (x : Int) :
    Core w0 (w.setCell ⟨w0.heap.size + 1, k, none⟩ (.int .u64 x)) G n tv pv sv ge (fun j => if j = k then x else co j) := by
  have hl := h.lt
  refine ⟨h.below.setCell (by simp; omega) _, by have := h.size; simpa [World.setCell] using this, hl, ?_, ?_, ?_⟩
  · rw [Below.heap_setCell _ _ _ _ (by simp; omega)]; exact h.gblk
  · exact h.gens.setOther (by simp) _
  · refine (h.cors.set k (.int .u64 x)).congr ?_
    intro j _
    by_cases e : j = k <;> simp [e]

theorem Core.congr {w0 w : World} {G n : Nat} {tv pv sv : Value} {ge co ge' co' : Nat → Int} (h : Core w0 w G n tv pv sv ge co) (h1 : ∀ j, j < n → ge j = ge' j) (h2 : ∀ j, j < n → co j = co' j) : Core w0 w G n tv pv sv ge' co' :=
  ⟨h.below, h.size, h.lt, h.gblk, h.gens.congr (fun j hj => by rw [h1 j hj]), h.cors.congr (fun j hj => by rw [h2 j hj])⟩

/-- The world at the first round's head. -/
theorem Core.start (w : World) (G n : Nat) (tv pv sv g0 c0 : Value) (hG : w.heap[G]? = some (graphObj tv pv sv g0 c0)) :
    Core w ((((w.setCell ⟨G, 5, none⟩ (.slice (some ⟨w.heap.size, 0, none⟩) n n)).setCell ⟨G, 6, none⟩ (.slice (some ⟨w.heap.size + 1, 0, none⟩) n n)).alloc (.cells (madeCells #[.int .u32 0] n) 33)).alloc (.cells (madeCells #[.int .u64 0] n) 30))
      G n tv pv sv (fun _ => 0) (fun _ => 0) := by
  obtain ⟨hl, _⟩ := Array.getElem?_eq_some_iff.1 hG
  generalize hw1 : (w.setCell ⟨G, 5, none⟩ (.slice (some ⟨w.heap.size, 0, none⟩) n n)).setCell ⟨G, 6, none⟩ (.slice (some ⟨w.heap.size + 1, 0, none⟩) n n) = w1
  have hsz : w1.heap.size = w.heap.size := by rw [← hw1]; simp [World.setCell]
  have hg1 : w1.heap[G]? = some (graphObj tv pv sv (.slice (some ⟨w.heap.size, 0, none⟩) n n) (.slice (some ⟨w.heap.size + 1, 0, none⟩) n n)) := by
    rw [← hw1]
    unfold graphObj at hG ⊢
    simp [World.setCell, Array.getElem?_modify, hG]
  have hb1 : Below G w w1 := by
    rw [← hw1]
    exact ((Below.refl G w).setCell (by exact Nat.le_refl _) _).setCell (by exact Nat.le_refl _) _
  have hr := World.rowIs_made w1 (.int .u32 0) n 33
  have hr2 := World.rowIs_made (w1.alloc (.cells (madeCells #[.int .u32 0] n) 33)) (.int .u64 0) n 30
  have hsz2 : (w1.alloc (.cells (madeCells #[.int .u32 0] n) 33)).heap.size = w.heap.size + 1 := by rw [Deep.nblk_alloc, hsz]
  rw [hsz] at hr
  rw [hsz2] at hr2
  refine ⟨(hb1.alloc (by omega) _).alloc (by omega) _, by rw [Deep.nblk_alloc, hsz2]; omega, hl, ?_, hr.alloc _, hr2⟩
  rw [Deep.blk_alloc_lt _ _ _ (by omega), Deep.blk_alloc_lt _ _ _ (by omega)]
  exact hg1
end Go.Proofs.Qxb6614549a

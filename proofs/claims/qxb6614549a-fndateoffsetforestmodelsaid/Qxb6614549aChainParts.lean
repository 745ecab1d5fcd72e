import Derived.Test.Qxb6614549aNumber
namespace Go.Proofs.Qxb6614549a
open Go.RowKit

theorem one_new (w : World) (v : Value) (e : TypeId) (b : Nat) (hb : b = w.heap.size) : ∀ j u, [v][j]? = some u → (w.alloc (.cells #[v] e)).cell? ((⟨b, 0, none⟩ : Addr).add j) = some u := by
  intro j u hj
  subst hb
  match j, hj with
  | 0, hj => simp at hj; subst hj; simp [Addr.add]

/-- What 'number' leaves, as the law reads it. -/
theorem Core.out {w0 w : World} {G n : Nat} {tv pv sv : Value} {ge co : Nat → Int} (h : Core w0 w G n tv pv sv ge co) :
    ∃ C, w.cell? ⟨G, 2, none⟩ = some tv ∧ w.cell? ⟨G, 6, none⟩ = some (.slice (some ⟨C, 0, none⟩) n n) ∧ ∀ j, j < n → w.cell? ⟨C, j, none⟩ = some (.int .u64 (co j)) := by
  obtain ⟨d2, d3, d4, d5, d6⟩ := graph_cells h.gblk
  exact ⟨_, d2, d6, fun j hj => h.cors.cell hj⟩

/-! ### The plain functions of the law over a chain -/
def chP (k : Nat) : Option Nat := if k = 0 then none else some (k - 1)
def chC (t : Int) (k : Nat) : Int := if t = 0 then (k : Int) + 1 else t + k

/-- The rows in the rounds of the first loop: times in block B, parents in block B + 1, starts in block B + 2. -/
structure Ch (w wr : World) (N : Nat) (t : Int) (k : Nat) : Prop where
  below : Below w.heap.size w wr
  size : w.heap.size + 3 ≤ wr.heap.size
  times : wr.rowIs w.heap.size 30 N (fun j => .int .u64 (if j < k then t else 0))
  par : wr.ownsRow (w.heap.size + 1) 33 1 (.slice (some ⟨w.heap.size + 1, 0, none⟩) (k - 1) N) (k - 1) ((List.range (k - 1)).map fun (j : Nat) => Value.int .u32 (j : Int))
  starts : wr.rowIs (w.heap.size + 2) 3 (N + 1) (fun j => .int .i64 (if j ≤ k then ((j - 1 : Nat) : Int) else 0))

theorem Ch.start (w : World) (N : Nat) (t : Int) (hN : N ≤ 65536) :
    Ch w (((w.alloc (.cells (madeCells #[.int .u64 0] N) 30)).alloc (.cells (madeCells #[.int .u32 0] N) 33)).alloc (.cells (madeCells #[.int .i64 0] (N + 1)) 3)) N t 0 := by
  have r1 := World.rowIs_made w (.int .u64 0) N 30
  have z1 := Deep.nblk_alloc w (.cells (madeCells #[.int .u64 0] N) 30)
  have r2 := World.ownsRow_lit (base := w.heap.size + 1) (e := 33) (size := 1) (w.alloc (.cells (madeCells #[.int .u64 0] N) 30)) (madeCells #[.int .u32 0] N) N (by omega) (by unfold maxLen; omega) (by rw [size_madeCells]; omega)
  have z2 := Deep.nblk_alloc (w.alloc (.cells (madeCells #[.int .u64 0] N) 30)) (.cells (madeCells #[.int .u32 0] N) 33)
  have r3 := World.rowIs_made ((w.alloc (.cells (madeCells #[.int .u64 0] N) 30)).alloc (.cells (madeCells #[.int .u32 0] N) 33)) (.int .i64 0) (N + 1) 3
  rw [z1] at r2 z2
  rw [z2] at r3
  refine ⟨(((Below.refl _ _).alloc (Nat.le_refl _) _).alloc (by omega) _).alloc (by omega) _, by rw [Deep.nblk_alloc]; omega, ((r1.alloc _).alloc _).congr (fun j _ => by simp), ?_, r3.congr (fun j _ => ?_)⟩
  · refine World.ownsRow.alloc ?_ _
    rcases r2.2 with ⟨h, _⟩ | ⟨g, cap, cur, h, a1, a2, a3, a4, a5, a6⟩
    · simp at h
    · simp at h
      obtain ⟨rfl, rfl⟩ := h
      exact ⟨by simp, Or.inr ⟨_, _, cur, rfl, a1, a2, by omega, a4, a5, by simp⟩⟩
  · by_cases h : j ≤ 0
    · have : j = 0 := by omega
      simp [this]
    · simp [h]

/-- A store into times. -/
theorem Ch.setTime {w wr : World} {N : Nat} {t : Int} {k : Nat} (h : Ch w wr N t k) :
    Below w.heap.size w (wr.setCell ⟨w.heap.size, k, none⟩ (.int .u64 t)) ∧ w.heap.size + 3 ≤ (wr.setCell ⟨w.heap.size, k, none⟩ (.int .u64 t)).heap.size ∧
    (wr.setCell ⟨w.heap.size, k, none⟩ (.int .u64 t)).rowIs w.heap.size 30 N (fun j => .int .u64 (if j < k + 1 then t else 0)) ∧
    (wr.setCell ⟨w.heap.size, k, none⟩ (.int .u64 t)).ownsRow (w.heap.size + 1) 33 1 (.slice (some ⟨w.heap.size + 1, 0, none⟩) (k - 1) N) (k - 1) ((List.range (k - 1)).map fun (j : Nat) => Value.int .u32 (j : Int)) ∧
    (wr.setCell ⟨w.heap.size, k, none⟩ (.int .u64 t)).rowIs (w.heap.size + 2) 3 (N + 1) (fun j => .int .i64 (if j ≤ k then ((j - 1 : Nat) : Int) else 0)) := by
  refine ⟨h.below.setCell (by exact Nat.le_refl _) _, by have := h.size; simpa [World.setCell] using this, (h.times.set k _).congr ?_, ownsRow_setCell_low h.par (by omega) _, h.starts.setOther (by simp) _⟩
  intro j _
  by_cases e : j = k
  · subst e; simp
  · have : (j < k) = (j < k + 1) := by rw [eq_iff_iff]; omega
    simp [e, this]

/-- The first round: no parent is laid. -/
theorem Ch.first {w wr : World} {N : Nat} {t : Int} (h : Ch w wr N t 0) :
    Ch w ((wr.setCell ⟨w.heap.size, 0, none⟩ (.int .u64 t)).setCell ⟨w.heap.size + 1 + 1, 1, none⟩ (.int .i64 0)) N t 1 := by
  obtain ⟨a1, a2, a3, a4, a5⟩ := h.setTime
  refine ⟨a1.setCell (by show w.heap.size ≤ w.heap.size + 1 + 1; omega) _, by simpa [World.setCell] using a2, a3.setOther (by show w.heap.size ≠ w.heap.size + 1 + 1; omega) _, ?_, (a5.set 1 (.int .i64 0)).congr ?_⟩
  · rcases a4.2 with ⟨b1, b2⟩ | ⟨g, cap, cur, b1, b2, b3, b4, b5, b6, b7⟩
    · simp at b1
    · simp at b1
      obtain ⟨rfl, rfl⟩ := b1
      exact ⟨by simp, Or.inr ⟨_, _, cur, rfl, b2, by rw [Below.heap_setCell _ _ _ _ (by show w.heap.size + 1 ≠ w.heap.size + 1 + 1; omega)]; exact b3, by omega, b5, b6, by simp⟩⟩
  · intro j _
    by_cases e : j = 1
    · subst e; simp
    · by_cases e2 : j = 0
      · subst e2; simp
      · have e3 : ¬ j ≤ 0 := by omega
        have e4 : ¬ j ≤ 1 := by omega
        simp [e, e3, e4]

/-- A later round: behind the append. -/
theorem Ch.next {w wr w1 : World} {N : Nat} {t : Int} {k : Nat} {c : Array Value} (h : Ch w wr N t (k + 1))
    (hown : w1.ownsRow (w.heap.size + 1) 33 1 (.slice (some ⟨w.heap.size + 1, 0, none⟩) (k + 1) N) (k + 1) ((List.range k).map (fun (j : Nat) => Value.int .u32 (j : Int)) ++ [.int .u32 (k : Int)]))
    (hg : ((wr.setCell ⟨w.heap.size, k + 1, none⟩ (.int .u64 t)).alloc (.cells c 33)).grownBy w1 (some (w.heap.size + 1))) :
    Ch w (w1.setCell ⟨w.heap.size + 1 + 1, k + 1 + 1, none⟩ (.int .i64 ((k : Int) + 1))) N t (k + 1 + 1) := by
  obtain ⟨a1, a2, a3, a4, a5⟩ := h.setTime
  have z := Deep.nblk_alloc (wr.setCell ⟨w.heap.size, k + 1, none⟩ (.int .u64 t)) (.cells c 33)
  have hsz := hg.size
  have b1 : Below w.heap.size w w1 := (a1.alloc (by omega) _).grown hg (by omega) (by intro g e; simp at e; omega)
  have b3 : w1.rowIs w.heap.size 30 N _ := (a3.alloc (.cells c 33)).of_block (hg.block _ (by omega) (by simp))
  have b5 : w1.rowIs (w.heap.size + 2) 3 (N + 1) _ := (a5.alloc (.cells c 33)).of_block (hg.block _ (by omega) (by simp))
  refine ⟨b1.setCell (by show w.heap.size ≤ w.heap.size + 1 + 1; omega) _, by simp only [World.setCell, Array.size_modify]; omega, b3.setOther (by show w.heap.size ≠ w.heap.size + 1 + 1; omega) _, ?_, (b5.set (k + 1 + 1) (.int .i64 ((k : Int) + 1))).congr ?_⟩
  · rcases hown.2 with ⟨b1, b2⟩ | ⟨g, cap, cur, c1, c2, c3, c4, c5, c6, c7⟩
    · simp at b1
    · simp at c1
      obtain ⟨rfl, rfl⟩ := c1
      refine ⟨by simp, Or.inr ⟨_, _, cur, rfl, c2, by rw [Below.heap_setCell _ _ _ _ (by show w.heap.size + 1 ≠ w.heap.size + 1 + 1; omega)]; exact c3, c4, c5, c6, ?_⟩⟩
      show List.take ((k + 1) * 1) cur.toList = List.map _ (List.range (k + 1))
      rw [c7, List.range_succ, List.map_append]
      rfl
  · intro j _
    by_cases e : j = k + 1 + 1
    · subst e; simp
    · have : (j ≤ k + 1) = (j ≤ k + 1 + 1) := by rw [eq_iff_iff]; omega
      simp [e, this]

theorem Ch.at1 {w wr w1 : World} {N : Nat} {t : Int} {k : Nat} {c : Array Value} (h : Ch w wr N t (k + 1)) (hlt : k + 1 < N)
    (hg : ((wr.setCell ⟨w.heap.size, k + 1, none⟩ (.int .u64 t)).alloc (.cells c 33)).grownBy w1 (some (w.heap.size + 1))) :
    w1.cell? ⟨w.heap.size + 1 + 1, k + 1 + 1, none⟩ = some (.int .i64 0) ∧ w1.frozen? ⟨w.heap.size + 1 + 1, k + 1 + 1, none⟩ = false := by
  obtain ⟨a1, a2, a3, a4, a5⟩ := h.setTime
  have z := Deep.nblk_alloc (wr.setCell ⟨w.heap.size, k + 1, none⟩ (.int .u64 t)) (.cells c 33)
  have b5 : w1.rowIs (w.heap.size + 2) 3 (N + 1) _ := (a5.alloc (.cells c 33)).of_block (hg.block _ (by omega) (by simp))
  have e := b5.cell (i := k + 1 + 1) (by omega)
  simp only [show ¬ k + 1 + 1 ≤ k + 1 by omega, if_false] at e
  exact ⟨e, b5.frozen _⟩

/-- The graph that the law makes is as 'number' asks. -/
theorem Ch.cols {w wr : World} {N : Nat} {t : Int} (h : Ch w wr N t N) (hN : N ≤ 65536) (h0 : 0 ≤ t) (ht : t ≤ 18446744073709551615 - N) (o : Obj) :
    Cols (wr.alloc o) wr.heap.size N (fun _ => t) chP (chC t) w.heap.size (w.heap.size + 1 + 1) (N - 1) N (some ⟨w.heap.size + 1, 0, none⟩) (w.heap.size + 1) (fun j => j - 1) := by
  have hs := h.size
  refine ⟨hN, by omega, by omega, by omega, by omega, ?_, ?_, ?_, ?_, ?_, ?_, ?_, ?_⟩
  · intro j hj
    have := (h.times.alloc o).cell hj
    simpa [hj] using this
  · intro j hj
    have e := (h.starts.alloc o).cell (i := j) (by omega)
    simp only [hj, if_true] at e
    exact e
  · intro j hj; omega
  · intro k hk e
    by_cases hk0 : k = 0
    · subst hk0; rfl
    · simp [chP, hk0] at e
  · intro k p hk e
    by_cases hk0 : k = 0
    · subst hk0; simp [chP] at e
    · simp [chP, hk0] at e
      subst e
      refine ⟨by omega, by omega, rfl, ?_⟩
      have := (h.par.alloc o).cellAt (k - 1) (by omega)
      rw [this]
      simp [show k - 1 < N - 1 by omega]
  · intro k hk e
    by_cases hk0 : k = 0
    · subst hk0; unfold chC; split <;> simp <;> omega
    · simp [chP, hk0] at e
  · intro k p hk e
    by_cases hk0 : k = 0
    · subst hk0; simp [chP] at e
    · simp [chP, hk0] at e
      subst e
      unfold chC; split <;> omega
  · intro k hk
    unfold chC; split <;> omega
end Go.Proofs.Qxb6614549a

import Derived.Test.Qxb6614549aChainParts
import Derived.Laws.CopyOwn
namespace Go.Proofs.Qxb6614549a
open Go.RowKit

/-! ### The plain functions of the law over a forest: T: the times; Q: the parents as the law is handed them (negative: none) -/
def foC (T Q : Nat → Int) : Nat → Nat → Int
  | 0, _ => 0
  | f + 1, v => if Q v < 0 then max (T v) 1 else max (T v) (foC T Q f (Q v).toNat + 1)
def cor (T Q : Nat → Int) (v : Nat) : Int := foC T Q (v + 1) v
def foP (Q : Nat → Int) (k : Nat) : Option Nat := if Q k < 0 then none else some (Q k).toNat
def cnt (Q : Nat → Int) : Nat → Nat
  | 0 => 0
  | k + 1 => cnt Q k + (if Q k < 0 then 0 else 1)
def parL (Q : Nat → Int) : Nat → List Value
  | 0 => []
  | k + 1 => parL Q k ++ (if Q k < 0 then [] else [.int .u32 (Q k)])

theorem foC_eq {T Q : Nat → Int} {n : Nat} (hQ : ∀ j, j < n → Q j < j) : ∀ f v, v < n → v < f → foC T Q f v = foC T Q (v + 1) v := by
  intro f
  induction f using Nat.strongRecOn with
  | ind f ih =>
    intro v hv hf
    match f, ih, hf with
    | f + 1, ih, hf =>
      by_cases hr : Q v < 0
      · simp [foC, hr]
      · have hp := hQ v hv
        have e1 := ih f (by omega) (Q v).toNat (by omega) (by omega)
        have e2 : foC T Q v (Q v).toNat = foC T Q ((Q v).toNat + 1) (Q v).toNat := by
          by_cases e : v = f
          · subst e; exact e1
          · exact ih v (by omega) (Q v).toNat (by omega) (by omega)
        simp [foC, hr, e1, e2]

theorem cor_root {T Q : Nat → Int} {v : Nat} (h : Q v < 0) : cor T Q v = max (T v) 1 := by simp [cor, foC, h]
theorem cor_step {T Q : Nat → Int} {n v : Nat} (hQ : ∀ j, j < n → Q j < j) (hv : v < n) (h : ¬ Q v < 0) : cor T Q v = max (T v) (cor T Q (Q v).toNat + 1) := by
  have hp := hQ v hv
  have e := foC_eq (T := T) hQ v (Q v).toNat (by omega) (by omega)
  unfold cor
  rw [foC, if_neg h, e]

theorem cor_le {T Q : Nat → Int} {n : Nat} {B : Int} (hQ : ∀ j, j < n → Q j < j) (hT : ∀ j, j < n → T j ≤ B) (hB : 0 ≤ B) : ∀ v, v < n → cor T Q v ≤ B + v + 1 := by
  intro v
  induction v using Nat.strongRecOn with
  | ind v ih =>
    intro hv
    have ht := hT v hv
    by_cases h : Q v < 0
    · rw [cor_root h]; omega
    · rw [cor_step hQ hv h]
      have hp := hQ v hv
      have := ih (Q v).toNat (by omega) (by omega)
      omega
theorem cor_ge {T Q : Nat → Int} {n : Nat} (hQ : ∀ j, j < n → Q j < j) {v : Nat} (hv : v < n) : T v ≤ cor T Q v := by
  by_cases h : Q v < 0
  · rw [cor_root h]; omega
  · rw [cor_step hQ hv h]; omega

theorem length_parL (Q : Nat → Int) (k : Nat) : (parL Q k).length = cnt Q k := by
  induction k with
  | zero => rfl
  | succ k ih =>
    rw [parL, cnt, List.length_append, ih]
    split <;> simp
theorem cnt_le (Q : Nat → Int) (k : Nat) : cnt Q k ≤ k := by
  induction k with
  | zero => exact Nat.le_refl _
  | succ k ih => rw [cnt]; split <;> omega
theorem cnt_mono (Q : Nat → Int) {j k : Nat} (h : j ≤ k) : cnt Q j ≤ cnt Q k := by
  induction k with
  | zero => obtain rfl : j = 0 := by omega
            exact Nat.le_refl _
  | succ k ih =>
    by_cases e : j = k + 1
    · subst e; exact Nat.le_refl _
    · have := ih (by omega)
      rw [cnt]; omega
theorem parL_at (Q : Nat → Int) {k n : Nat} (hk : k < n) (h : ¬ Q k < 0) : (parL Q n)[cnt Q k]? = some (.int .u32 (Q k)) := by
  induction n with
  | zero => omega
  | succ n ih =>
    rw [parL]
    by_cases e : k = n
    · subst e
      rw [if_neg h, List.getElem?_append_right (by rw [length_parL]; exact Nat.le_refl _), length_parL]
      simp
    · have hc : cnt Q k < (parL Q n).length := by
        have h1 := cnt_mono Q (show k + 1 ≤ n by omega)
        rw [cnt, if_neg h] at h1
        rw [length_parL]; omega
      rw [List.getElem?_append_left hc]
      exact ih (by omega)

theorem ownsRow_shape {w : World} {base : Nat} {e : TypeId} {size : Nat} {v : Value} {n : Nat} {xs : List Value} (h : w.ownsRow base e size v n xs) : ∃ ao cap, v = .slice ao n cap ∧ n ≤ cap := by
  rcases h.2 with ⟨rfl, rfl⟩ | ⟨g, cap, cur, rfl, _, _, hc, _⟩
  · exact ⟨none, 0, rfl, Nat.le_refl _⟩
  · exact ⟨_, _, rfl, hc⟩

/-- The rows in the rounds of the second loop: times in block tb, starts in block sb, the parents a row of the call's own behind them. -/
structure Fo (w wr : World) (n tb sb : Nat) (T Q : Nat → Int) (k : Nat) (v : Value) : Prop where
  below : Below w.heap.size w wr
  t0 : w.heap.size ≤ tb
  ts : tb < sb
  size : sb + 1 ≤ wr.heap.size
  times : ∀ j, j < n → wr.cell? ⟨tb, j, none⟩ = some (.int .u64 (T j))
  starts : wr.rowIs sb 3 (n + 1) (fun j => .int .i64 (if j ≤ k then (cnt Q j : Int) else 0))
  par : wr.ownsRow (sb + 1) 33 1 v (cnt Q k) (parL Q k)

theorem Fo.start {w w1 : World} {n tb : Nat} {T : Nat → Int} (Q : Nat → Int) (hb : Below w.heap.size w w1) (h0 : w.heap.size ≤ tb) (hl : tb < w1.heap.size) (ht : ∀ j, j < n → w1.cell? ⟨tb, j, none⟩ = some (.int .u64 (T j))) :
    Fo w (w1.alloc (.cells (madeCells #[.int .i64 0] (n + 1)) 3)) n tb w1.heap.size T Q 0 (.slice none 0 0) := by
  have r3 := World.rowIs_made w1 (.int .i64 0) (n + 1) 3
  refine ⟨hb.alloc (by omega) _, h0, hl, by rw [Deep.nblk_alloc]; exact Nat.le_refl _, ?_, r3.congr ?_, World.ownsRow_nil _ _ _ _⟩
  · intro j hj
    rw [World.cell?_of_block (w := w1) (Deep.blk_alloc_lt _ _ _ hl)]
    exact ht j hj
  · intro j _
    by_cases h : j ≤ 0
    · have : j = 0 := by omega
      subst this; simp [cnt]
    · simp [h]

/-- A round at a root. -/
theorem Fo.root {w wr : World} {n tb sb : Nat} {T Q : Nat → Int} {k : Nat} {v : Value} (h : Fo w wr n tb sb T Q k v) (hr : Q k < 0) :
    Fo w (wr.setCell ⟨sb, k + 1, none⟩ (.int .i64 (cnt Q k : Int))) n tb sb T Q (k + 1) v := by
  have t0 := h.t0
  have ts := h.ts
  have e : cnt Q (k + 1) = cnt Q k := by rw [cnt, if_pos hr]; rfl
  refine ⟨h.below.setCell (by show w.heap.size ≤ sb; omega) _, t0, ts, by have := h.size; simpa [World.setCell] using this, ?_, (h.starts.set (k + 1) _).congr ?_, ?_⟩
  · intro j hj
    rw [World.cell?_of_block (w := wr) (Deep.blk_setCell_other _ _ _ _ (by show tb ≠ sb; omega))]
    exact h.times j hj
  · intro j _
    by_cases e1 : j = k + 1
    · subst e1; simp [e]
    · have : (j ≤ k) = (j ≤ k + 1) := by rw [eq_iff_iff]; omega
      simp [e1, this]
  · have hp := ownsRow_setCell_low h.par (b := sb) (o := k + 1) (by omega) (.int .i64 (cnt Q k : Int))
    rw [e]
    rw [parL, if_pos hr, List.append_nil]
    exact hp

/-- A round at a commit with a parent: behind the append. -/
theorem Fo.child {w wr w1 : World} {n tb sb : Nat} {T Q : Nat → Int} {k : Nat} {v v' : Value} {c : Array Value} (h : Fo w wr n tb sb T Q k v) (hr : ¬ Q k < 0)
    (hown : w1.ownsRow (sb + 1) 33 1 v' (cnt Q k + 1) (parL Q k ++ [.int .u32 (Q k)])) (hg : (wr.alloc (.cells c 33)).grownBy w1 v.ownBlock) :
    (w1.rowIs sb 3 (n + 1) (fun j => .int .i64 (if j ≤ k then (cnt Q j : Int) else 0))) ∧ Below (sb + 1) wr w1 ∧
    Fo w (w1.setCell ⟨sb, k + 1, none⟩ (.int .i64 ((cnt Q k : Int) + 1))) n tb sb T Q (k + 1) v' := by
  have t0 := h.t0
  have ts := h.ts
  have hs := h.size
  have hb : Below (sb + 1) wr w1 := by
    refine ((Below.refl _ _).alloc hs _).grown hg (by rw [Deep.nblk_alloc]; omega) ?_
    intro g hg'
    rcases h.par.2 with ⟨rfl, _⟩ | ⟨g', cap, cur, rfl, hb, _⟩
    · simp [Value.ownBlock] at hg'
    · simp [Value.ownBlock] at hg'; omega
  have hst := h.starts.of_block (hb.block sb (by omega))
  have e : cnt Q (k + 1) = cnt Q k + 1 := by rw [cnt, if_neg hr]
  refine ⟨hst, hb, (h.below.trans (hb.mono (by omega))).setCell (by show w.heap.size ≤ sb; omega) _, t0, ts, by have := hb.size; simp only [World.setCell, Array.size_modify]; omega, ?_, (hst.set (k + 1) _).congr ?_, ?_⟩
  · intro j hj
    rw [World.cell?_of_block (w := w1) (Deep.blk_setCell_other _ _ _ _ (by show tb ≠ sb; omega)), hb.cell (p := ⟨tb, j, none⟩) (by show tb < sb + 1; omega)]
    exact h.times j hj
  · intro j _
    by_cases e1 : j = k + 1
    · subst e1; simp [e]
    · have : (j ≤ k) = (j ≤ k + 1) := by rw [eq_iff_iff]; omega
      simp [e1, this]
  · have hp := ownsRow_setCell_low hown (b := sb) (o := k + 1) (by omega) (.int .i64 ((cnt Q k : Int) + 1))
    rw [e]
    rw [parL, if_neg hr]
    exact hp

/-- The graph that the law makes is as 'number' asks. -/
theorem Fo.cols {w wr : World} {n tb sb : Nat} {T Q : Nat → Int} {ao : Option Addr} {cap : Nat} (h : Fo w wr n tb sb T Q n (.slice ao (cnt Q n) cap)) (hn : n ≤ 4096) (hcap : cnt Q n ≤ cap)
    (hQ : ∀ j, j < n → Q j < j) (hT : ∀ j, j < n → T j ≤ 18446744073709551615 - n) (o : Obj) :
    ∃ pb, Cols (wr.alloc o) wr.heap.size n T (foP Q) (cor T Q) tb sb (cnt Q n) cap ao pb (cnt Q) := by
  have t0 := h.t0
  have ts := h.ts
  have hs := h.size
  have hpar := h.par.2
  obtain ⟨pb, hpl, hpb⟩ : ∃ pb, pb < wr.heap.size ∧ (0 < cnt Q n → ao = some ⟨pb, 0, none⟩) := by
    rcases hpar with ⟨e, e0⟩ | ⟨g, c, cur, e, hg, hh, _⟩
    · exact ⟨tb, by omega, fun h => by omega⟩
    · simp at e
      exact ⟨g, lt_of_block hh, fun _ => e.1⟩
  have told : ∀ j, j < n → (wr.alloc o).cell? ⟨tb, j, none⟩ = some (.int .u64 (T j)) := fun j hj => by
    rw [World.cell?_of_block (w := wr) (Deep.blk_alloc_lt _ _ _ (by show tb < _; omega))]
    exact h.times j hj
  refine ⟨pb, by omega, hcap, by omega, by omega, hpl, told, ?_, fun j hj => cnt_mono Q hj, ?_, ?_, ?_, ?_, ?_⟩
  · intro j hj
    have e := (h.starts.alloc o).cell (i := j) (by omega)
    simp only [hj, if_true] at e
    exact e
  · intro k hk e
    by_cases hr : Q k < 0
    · rw [cnt, if_pos hr]; rfl
    · simp [foP, hr] at e
  · intro k p hk e
    by_cases hr : Q k < 0
    · simp [foP, hr] at e
    · simp [foP, hr] at e
      subst e
      have hqk := hQ k hk
      have h1 := cnt_mono Q (show k + 1 ≤ n by omega)
      rw [cnt, if_neg hr] at h1
      have hao := hpb (by omega)
      refine ⟨by omega, by rw [cnt, if_neg hr], hao, ?_⟩
      subst hao
      have := (h.par.alloc o).cellAt (cnt Q k) (by omega)
      rw [this, parL_at Q hk hr]
      congr 2
      omega
  · intro k hk e
    by_cases hr : Q k < 0
    · rw [cor_root hr]; rfl
    · simp [foP, hr] at e
  · intro k p hk e
    by_cases hr : Q k < 0
    · simp [foP, hr] at e
    · simp [foP, hr] at e
      subst e
      exact cor_step hQ hk hr
  · intro k hk
    have := cor_le (B := 18446744073709551615 - n) hQ hT (by omega) k hk
    omega

/-- A step up the forest. -/
theorem climb {T Q : Nat → Int} {n k vn dn : Nat} {bi bi' : Int} (hQ : ∀ j, j < n → Q j < j) (hv : vn < n) (hr : ¬ Q vn < 0) (HM : max bi (cor T Q vn + dn) = cor T Q k) (hb : bi' = max bi (T vn + dn)) :
    max bi' (cor T Q (Q vn).toNat + ((dn + 1 : Nat) : Int)) = cor T Q k := by
  rw [cor_step hQ hv hr] at HM
  omega
/-- The root. -/
theorem summit {T Q : Nat → Int} {k vn dn : Nat} {bi : Int} (hr : Q vn < 0) (HM : max bi (cor T Q vn + dn) = cor T Q k) : max bi (max (T vn) 1 + dn) = cor T Q k := by
  rw [cor_root hr] at HM
  exact HM

/-! ### 'copy(tc, times)' -/
def timesL (T : Nat → Int) (n : Nat) : List Value := (List.range n).map fun j => .int .u64 (T j)
theorem length_timesL (T : Nat → Int) (n : Nat) : (timesL T n).length = n := by simp [timesL]
theorem timesL_at {T : Nat → Int} {n j : Nat} {v : Value} (h : (timesL T n)[j]? = some v) : j < n ∧ v = .int .u64 (T j) := by
  have hj : j < n := by
    have := (List.getElem?_eq_some_iff.1 h).1
    rwa [length_timesL] at this
  refine ⟨hj, ?_⟩
  simp [timesL, hj] at h
  exact h.symm
theorem timesL_one (T : Nat → Int) (n : Nat) : ∀ v ∈ timesL T n, v.oneCell' = true := by
  intro v hv
  simp [timesL] at hv
  obtain ⟨_, _, rfl⟩ := hv
  rfl
theorem copy_src {w : World} {n b0 o0 : Nat} {T : Nat → Int} (hb0 : b0 < w.heap.size) (hT : ∀ j, j < n → w.cell? ⟨b0, o0 + j, none⟩ = some (.int .u64 (T j))) (o : Obj) :
    ∀ j v, (timesL T n)[j]? = some v → (w.alloc o).cell? ((⟨b0, o0, none⟩ : Addr).add j) = some v := by
  intro j v h
  obtain ⟨hj, rfl⟩ := timesL_at h
  rw [Addr.add_lit, World.cell?_of_block (w := w) (Deep.blk_alloc_lt _ _ _ (by exact hb0))]
  exact hT j hj
theorem copy_dst (w : World) (n : Nat) : (w.alloc (.cells (madeCells #[.int .u64 0] n) 30)).heap[w.heap.size]? = some (.cells (madeCells #[.int .u64 0] n).toList.toArray 30 (0, 0)) := by
  rw [Deep.blk_alloc_new]
theorem copy_len (n : Nat) : (madeCells #[.int .u64 0] n).toList.length = n := by simp [size_madeCells]
/-- What lies in the copied row. -/
theorem copied {w1 : World} {g n : Nat} {T : Nat → Int} (h : w1.heap[g]? = some (.cells (splice (madeCells #[.int .u64 0] n).toList 0 (timesL T n)).toArray 30 (0, 0))) : ∀ j, j < n → w1.cell? ⟨g, j, none⟩ = some (.int .u64 (T j)) := by
  intro j hj
  have e : splice (madeCells #[.int .u64 0] n).toList 0 (timesL T n) = timesL T n := by
    unfold splice
    rw [List.drop_eq_nil_of_le (by rw [copy_len, length_timesL]; omega)]
    simp
  rw [e] at h
  simp [World.cell?, h, timesL, hj]
end Go.Proofs.Qxb6614549a

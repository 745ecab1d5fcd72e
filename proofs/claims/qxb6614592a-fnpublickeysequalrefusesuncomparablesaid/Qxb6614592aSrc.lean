import Derived.Test.Qxb6614592aEqual
import Derived.Laws.CopyOwn
namespace Go.Proofs.Qxb6614592a
open Go.RowKit

theorem info5 : (Try.prog.info? 5).map (fun i => (i.zero, i.size, i.bytes)) = some (some (.int .u8 0), 1, 1) := by kernel_rfl
theorem size5 : (Try.prog.info? 5).map (·.size) = some 1 := by kernel_rfl

/-- A slice of bytes that came in: where its cells lie, and what they hold. -/
structure Src (w : World) (ao : Option Addr) (n : Nat) (f : Nat → Int) : Prop where
  short : n ≤ 65536
  cell : 0 < n → ∃ x, ao = some x ∧ ∀ j, j < n → w.cell? (x.add j) = some (.int .u8 (f j))
  byte : ∀ j, j < n → 0 ≤ f j ∧ f j ≤ 255

theorem lt_of_cell {w : World} {a : Addr} {v : Value} (h : w.cell? a = some v) : a.block < w.heap.size := by
  rcases Nat.lt_or_ge a.block w.heap.size with h' | h'
  · exact h'
  · simp [World.cell?, h'] at h

theorem Src.later {w w' : World} {ao : Option Addr} {n : Nat} {f : Nat → Int} (h : Src w ao n f) (hb : Below w.heap.size w w') : Src w' ao n f := by
  refine ⟨h.short, fun hn => ?_, h.byte⟩
  obtain ⟨x, hx, hc⟩ := h.cell hn
  exact ⟨x, hx, fun j hj => by rw [hb.cell (lt_of_cell (hc j hj))]; exact hc j hj⟩

def bytesL (f : Nat → Int) (n : Nat) : List Value := (List.range n).map fun j => .int .u8 (f j)
theorem length_bytesL (f : Nat → Int) (n : Nat) : (bytesL f n).length = n := by simp [bytesL]
theorem bytesL_at {f : Nat → Int} {n j : Nat} {v : Value} (h : (bytesL f n)[j]? = some v) : j < n ∧ v = .int .u8 (f j) := by
  have hj : j < n := by
    have := (List.getElem?_eq_some_iff.1 h).1
    rwa [length_bytesL] at this
  refine ⟨hj, ?_⟩
  simp [bytesL, hj] at h
  exact h.symm
theorem bytesL_one (f : Nat → Int) (n : Nat) : ∀ v ∈ bytesL f n, v.oneCell' = true := by
  intro v hv
  simp [bytesL] at hv
  obtain ⟨_, _, rfl⟩ := hv
  rfl

/-- The row that make lays. -/
def freshRow (n : Nat) : List Value := (madeCells #[.int .u8 0] n).toList
theorem length_freshRow (n : Nat) : (freshRow n).length = n := by simp [freshRow, size_madeCells]

theorem cp_dst (w : World) (n : Nat) : (w.alloc (.cells (madeCells #[.int .u8 0] n) 5)).heap[w.heap.size]? = some (.cells (freshRow n).toArray 5 (0, 0)) := by
  rw [Deep.blk_alloc_new]
  rfl
theorem cp_len (f : Nat → Int) (n : Nat) : (bytesL f n).length = Nat.min n n := by rw [length_bytesL]; exact (Nat.min_self n).symm
theorem cp_fit (f : Nat → Int) (n : Nat) : 0 + (bytesL f n).length ≤ (freshRow n).length := by rw [length_bytesL, length_freshRow]; omega
theorem cp_src {w : World} {ao : Option Addr} {n : Nat} {f : Nat → Int} (h : Src w ao n f) (o : Obj) (g : Nat) :
    0 < (bytesL f n).length → some (⟨g, 0, none⟩ : Addr) = some ⟨g, 0, none⟩ ∧ ∃ ad, ao = some ad ∧ ∀ j v, (bytesL f n)[j]? = some v → (w.alloc o).cell? (ad.add j) = some v := by
  intro hn
  rw [length_bytesL] at hn
  obtain ⟨x, hx, hc⟩ := h.cell hn
  refine ⟨rfl, x, hx, fun j v hv => ?_⟩
  obtain ⟨hj, rfl⟩ := bytesL_at hv
  rw [World.cell?_of_block (w := w) (Deep.blk_alloc_lt _ _ _ (lt_of_cell (hc j hj)))]
  exact hc j hj

/-- What lies in the copy. -/
theorem copied {w1 : World} {g n : Nat} {f : Nat → Int} (hs : n ≤ 65536) (hb : ∀ j, j < n → 0 ≤ f j ∧ f j ≤ 255) (h : w1.heap[g]? = some (.cells (splice (freshRow n) 0 (bytesL f n)).toArray 5 (0, 0))) : Bts w1 (some ⟨g, 0, none⟩) g n f := by
  refine ⟨hs, fun _ => rfl, fun j hj => ?_, hb⟩
  have e : splice (freshRow n) 0 (bytesL f n) = bytesL f n := by
    unfold splice
    rw [List.drop_eq_nil_of_le (by rw [length_freshRow, length_bytesL]; omega)]
    simp
  rw [e] at h
  simp [World.cell?, h, bytesL, hj]

theorem Bts.later {w w' : World} {ao : Option Addr} {b n : Nat} {f : Nat → Int} (h : Bts w ao b n f) (hb : Below (b + 1) w w') : Bts w' ao b n f :=
  ⟨h.short, h.at0, fun j hj => by rw [hb.cell (p := ⟨b, j, none⟩) (by show b < b + 1; omega)]; exact h.cell j hj, h.byte⟩

/-- A nil slice of bytes. -/
theorem Bts.nil (w : World) (b : Nat) (f : Nat → Int) : Bts w none b 0 f := ⟨by omega, fun h => by omega, fun j h => by omega, fun j h => by omega⟩
end Go.Proofs.Qxb6614592a

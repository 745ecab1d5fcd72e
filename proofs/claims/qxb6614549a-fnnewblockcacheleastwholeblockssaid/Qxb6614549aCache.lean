import Derived.Test.Qxb6614549aRows
import Derived.WalkKit
import Derived.WalkSpells
import Derived.WalkLawsBesides
import Derived.Deep.OwnRows
import Derived.Outline
namespace Go.Proofs.Qxb6614549a.Cache
open Go.RowKit

theorem info70 : (Try.prog.info? 70).map (fun i => (i.zero, i.size, i.bytes)) = some (some (.agg #[.int .i32 0, .int .u32 0, .int .i64 0, .slice none 0 0]), 4, 40) := by kernel_rfl

/-- How many slots a cache of a file of s bytes has. -/
def slots (s : Int) : Nat := (min ((s + 4095) / 4096) 2048).toNat

/-- The cells of one empty slot. -/
def slotZ : Array Value := #[.int .i32 0, .int .u32 0, .int .i64 0, .slice none 0 0]

/-- make([]cacheSlot, k) -/
theorem make_slots (C : Int) (k : Nat) (hC : C = (k : Int)) (hk : k ≤ 2048) (w : World) :
    (Instr.makeSlice 54 (.int .i64 C) (.int .i64 C)).run Try.prog w = .ok (.slice (some ⟨w.heap.size, 0, none⟩) k k) (w.alloc (.cells (madeCells slotZ (k * 4)) 70)) := by
  subst hC
  obtain ⟨i, hi, hz0, hz1, hz2⟩ := info_parts info70
  have := run_make (P := Try.prog) w 54 70 i _ Try.underlying54 hi hz0 .i64 .i64 k k (by omega) (by omega) (by rw [hz2]; omega) (by omega)
  rw [hz1] at this
  exact this

/-- The world behind newBlockCache: the slots in one block, the cache in the next. -/
def cached (w : World) (s : Int) : World :=
  (w.alloc (.cells (madeCells slotZ (slots s * 4)) 70)).alloc (.cells #[.nilIface, .int .i64 s, .slice (some ⟨w.heap.size, 0, none⟩) (slots s) (slots s), .pointer none] 63)

theorem slots_small {s : Int} (h0 : 0 ≤ s) (h : (s + 4096 - 1) / 4096 ≤ 2048) : (s + 4096 - 1) / 4096 = (slots s : Int) := by unfold slots; omega
theorem slots_large {s : Int} (h : 2048 ≤ (s + 4096 - 1) / 4096) : slots s = 2048 := by unfold slots; omega
theorem slots_le (s : Int) : slots s ≤ 2048 := by unfold slots; omega

theorem new_any (s : Int) (h0 : 0 ≤ s) (h1 : s ≤ 9223372036854771712) (w : World) :
    Calls Try.prog 21 #[.nilIface, .int .i64 s] w fun e w' => e = .returned (.pointer (some ⟨w.heap.size + 1, 0, none⟩)) ∧ w' = cached w s := by
  unfold cached
  by_cases hs : (s + 4096 - 1) / 4096 ≤ 2048
  · have hmk := make_slots _ _ (slots_small h0 hs) (slots_le s)
    go_enter Try.func21, Try.ntmps21
    go_wp2
    go_ret
    exact ⟨rfl, rfl⟩
  · rw [slots_large (by omega)]
    have hmk := make_slots 2048 2048 rfl (by omega)
    by_cases hb : s = 9223372036854771712
    · subst hb
      have e : 2048 < wrap64 ((wrap64 (wrap64 9223372036854775808 - 1)).tdiv 4096) := by simp only [wrap64]; decide
      go_enter Try.func21, Try.ntmps21
      go_wp2
      go_ret
      exact ⟨rfl, rfl⟩
    · have hb' : s < 9223372036854771712 := by omega
      clear hb
      go_enter Try.func21, Try.ntmps21
      go_wp2
      go_ret
      exact ⟨rfl, rfl⟩

theorem zzNew_any (s : Int) (h0 : 0 ≤ s) (h1 : s ≤ 9223372036854771712) (w : World) :
    Calls Try.prog 13 #[.int .i64 s] w fun e w' => e = .returned (.pointer (some ⟨w.heap.size + 1, 0, none⟩)) ∧ w' = cached w s := by
  go_enter Try.func13, Try.ntmps13
  go_wp2_with (go_at_call 21; refine (new_any s h0 h1 _).mono ?_; rintro e w' ⟨rfl, rfl⟩)
  go_ret
  exact ⟨rfl, rfl⟩

theorem cached_cells (w : World) (s : Int) : (cached w s).cell? ⟨w.heap.size + 1, 0, none⟩ = some .nilIface ∧ (cached w s).cell? ⟨w.heap.size + 1, 1, none⟩ = some (.int .i64 s) ∧
    (cached w s).cell? ⟨w.heap.size + 1, 2, none⟩ = some (.slice (some ⟨w.heap.size, 0, none⟩) (slots s) (slots s)) := by
  have h := Deep.blk_alloc_new (w.alloc (.cells (madeCells slotZ (slots s * 4)) 70)) (.cells #[.nilIface, .int .i64 s, .slice (some ⟨w.heap.size, 0, none⟩) (slots s) (slots s), .pointer none] 63)
  rw [Deep.nblk_alloc] at h
  have h' : (cached w s).heap[w.heap.size + 1]? = _ := h
  simp [World.cell?, h']

theorem cached_slot (w : World) (s : Int) (k : Nat) (hk : k < slots s) : (cached w s).cell? ⟨w.heap.size, k * 4 + 2, none⟩ = some (.int .i64 0) ∧ (cached w s).cell? ⟨w.heap.size, k * 4 + 3, none⟩ = some (.slice none 0 0) := by
  have h : (cached w s).heap[w.heap.size]? = some (.cells (madeCells slotZ (slots s * 4)) 70) := by
    unfold cached
    rw [Deep.blk_alloc_lt _ _ _ (by rw [Deep.nblk_alloc]; omega)]
    exact Deep.blk_alloc_new _ _
  have e2 : (k * 4 + 2) % 4 = 2 := by omega
  have e3 : (k * 4 + 3) % 4 = 3 := by omega
  simp [World.cell?, h, madeCells, slotZ, show k * 4 + 2 < slots s * 4 by omega, show k * 4 + 3 < slots s * 4 by omega, e2, e3]

theorem cached_below (w : World) (s : Int) : Below w.heap.size w (cached w s) := ((Below.refl _ _).alloc (Nat.le_refl _) _).alloc (by rw [Deep.nblk_alloc]; omega) _

set_option maxHeartbeats 400000 in
theorem zzCache_any (s : Int) (h0 : 0 ≤ s) (h1 : s ≤ 9223372036854771712) (w : World) :
    Calls Try.prog 7 #[.int .i64 s] w fun e w' => e = .returned (.tuple #[.int .i64 (slots s), .bool true]) ∧ Below w.heap.size w w' := by
  obtain ⟨c0, c1, c2⟩ := cached_cells w s
  have hsl := fun k hk => cached_slot w s k hk
  have HSL : Hid (∀ k, k < slots s → (cached w s).cell? ⟨w.heap.size, k * 4 + 2, none⟩ = some (.int .i64 0) ∧ (cached w s).cell? ⟨w.heap.size, k * 4 + 3, none⟩ = some (.slice none 0 0)) := hsl
  clear hsl
  have hle := slots_le s
  have hb := cached_below w s
  have HB : Hid (Below w.heap.size w (cached w s)) := hb
  clear hb
  have hnil := fun w0 => run_neq_slice_nil_any (P := Try.prog) w0 45 5 none 0 0 0 0 Try.underlying45
  generalize hw : cached w s = w1 at *
  go_enter Try.func7, Try.ntmps7
  go_wp2_with (first | (go_at_call 13; refine (zzNew_any s h0 h1 _).mono ?_; rintro e w' ⟨rfl, rfl⟩; rw [hw]; clear hw) | go_in)
  generalize hns : slots s = n at *
  have HN : Hid (slots s = n) := hns
  clear hns
  go_loop [6] (fun i => ∃ k : Nat, k ≤ n ∧ i = .int .i64 k) (fun i => n - (intOf i).toNat)
  case atStart => exact ⟨0, Nat.zero_le _, rfl⟩
  case round =>
    obtain ⟨k, hk, rfl⟩ := hrel
    by_cases hlt : k < n
    · obtain ⟨d0, d1⟩ := HSL.out k hlt
      have hlt' : (k : Int) < (n : Int) := by omega
      go_wp2
      go_round
      case rel => exact ⟨k + 1, by omega, by go_num⟩
      case measure => simp [intOf]; omega
    · go_wp2
      go_ret2
      exact ⟨by rw [HN.out]; rfl, HB.out⟩
end Go.Proofs.Qxb6614549a.Cache

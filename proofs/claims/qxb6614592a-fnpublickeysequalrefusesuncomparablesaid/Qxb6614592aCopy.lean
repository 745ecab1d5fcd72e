import Derived.Test.Qxb6614592aSrc
namespace Go.Proofs.Qxb6614592a
open Go.RowKit

theorem copyBytes_nil (c : Nat) (w : World) : Calls Try.prog 10 #[.slice none 0 c] w fun e w' => e = .returned (.slice none 0 0) ∧ w = w' := by
  have hnil := fun w0 o p q => Lib.run_eql_slice_nil (P := Try.prog) w0 26 5 o p q 0 0 Try.underlying26
  go_enter Try.func10, Try.ntmps10
  go_wp2
  go_ret
  exact ⟨rfl, rfl⟩

set_option maxRecDepth 100000 in
set_option maxHeartbeats 400000 in
theorem copyBytes_some (w : World) (b n cap : Nat) (f : Nat → Int) (ha : Bts w (some ⟨b, 0, none⟩) b n f) (hbl : b < w.heap.size) :
    Calls Try.prog 10 #[.slice (some ⟨b, 0, none⟩) n cap] w fun e w' => e = .returned (.slice (some ⟨w.heap.size, 0, none⟩) n n) ∧ Below w.heap.size w w' ∧ Bts w' (some ⟨w.heap.size, 0, none⟩) w.heap.size n f := by
  have hn := ha.short
  have hnil := fun w0 o p q => Lib.run_eql_slice_nil (P := Try.prog) w0 26 5 o p q 0 0 Try.underlying26
  have hmk := run_make_row' (P := Try.prog) 26 5 (.int .u8 0) 1 Try.underlying26 info5 rfl .i64 .i64 n (by omega) (by omega)
  have HA := hide ha
  clear ha
  go_enter Try.func10, Try.ntmps10
  go_wp2
  clear hmk hnil
  go_loopw [4] (fun i wr => ∃ k : Nat, k ≤ n ∧ i = .int .i64 k ∧ Below w.heap.size w wr ∧ wr.rowIs w.heap.size 5 n (fun j => .int .u8 (if j < k then f j else 0))) (fun i _ => n - (intOf i).toNat)
  case atStart => exact ⟨0, Nat.zero_le _, rfl, (Below.refl _ _).alloc (Nat.le_refl _) _, (World.rowIs_made w (.int .u8 0) n 5).congr (fun j _ => by simp)⟩
  case round =>
    obtain ⟨k, hk, rfl, hbe, hrow⟩ := hrel
    by_cases hlt : k < n
    · have ca := (hbe.cell (p := ⟨b, k, none⟩) hbl).trans ((unhide HA).cell k hlt)
      have cd := hrow.cell hlt
      have fd := hrow.frozen k
      simp only [Nat.lt_irrefl, if_false] at cd
      have HB := hide hbe
      have HR := hide hrow
      clear hbe hrow
      have hlt' : (k : Int) < (n : Int) := by omega
      go_wp2
      go_roundw
      case rel =>
        refine ⟨k + 1, by omega, by go_num, (unhide HB).setCell (by exact Nat.le_refl _) _, ((unhide HR).set k _).congr ?_⟩
        intro j _
        by_cases e : j = k
        · subst e; simp
        · have : (j < k) = (j < k + 1) := by rw [eq_iff_iff]; omega
          simp [e, this]
      case measure => simp [intOf]; omega
    · have hkn : n = k := by omega
      subst hkn
      have HB := hide hbe
      have HR := hide hrow
      clear hbe hrow
      go_wp2
      go_ret
      refine ⟨rfl, unhide HB, hn, fun _ => rfl, fun j hj => ?_, (unhide HA).byte⟩
      have := (unhide HR).cell hj
      simpa [hj] using this
end Go.Proofs.Qxb6614592a

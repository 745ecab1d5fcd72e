import Derived.Test.Qxb6614549aChainParts
namespace Go.Proofs.Qxb6614549a
open Go.RowKit

set_option maxRecDepth 100000 in
set_option maxHeartbeats 1000000 in
theorem chain_main (t : Int) (N : Nat) (hN : N ≤ 65536) (h0 : 0 ≤ t) (ht : t ≤ 18446744073709551615 - N) (w : World) :
    Calls Try.prog 6 #[.int .u64 t, .int .i64 N] w fun e w' => e = .returned (.bool true) ∧ Below w.heap.size w w' := by
  have hmk1 := run_make_row' (P := Try.prog) 27 30 (.int .u64 0) 8 Try.underlying27 info30 rfl .i64 .i64 N (by omega) (by omega)
  have hmk3 := run_make_row' (P := Try.prog) 32 3 (.int .i64 0) 8 Try.underlying32 info3 rfl .i64 .i64 (N + 1) (by omega) (by omega)
  rw [show ((N + 1 : Nat) : Int) = (N : Int) + 1 by omega] at hmk3
  have hmk2 : ∀ w : World, (Instr.makeSlice 31 (.int .i64 0) (.int .i64 (N : Int))).run Try.prog w = .ok (.slice (some ⟨w.heap.size, 0, none⟩) 0 N) (w.alloc (.cells (madeCells #[.int .u32 0] N) 33)) := by
    intro w
    obtain ⟨i, hi, hz0, hz1, hz2⟩ := info_parts info33
    have := run_make (P := Try.prog) w 31 33 i (.int .u32 0) Try.underlying31 hi hz0 .i64 .i64 0 N (by omega) (by omega) (by rw [hz2]; omega) (by omega)
    simpa [hz1, Value.cells] using this
  have hst := hide (Ch.start w N t hN)
  have hn0 : ¬ (N : Int) < 0 := by omega
  have hn1 : ¬ (65536 : Int) < (N : Int) := by omega
  have hd : decide (18446744073709551615 - (N : Int) < t) = false := decide_eq_false (by omega)
  obtain ⟨i0, hi, hz0, hz1, hz2⟩ := info_parts info33
  go_enter Try.func6, Try.ntmps6
  go_wp2
  clear hmk1 hmk2 hmk3
  go_loopw [6, 8] (fun v i wr => ∃ k : Nat, k ≤ N ∧ i = .int .i64 k ∧ v = .slice (some ⟨w.heap.size + 1, 0, none⟩) (k - 1) N ∧ Ch w wr N t k) (fun _ i _ => N - (intOf i).toNat)
  case atStart => exact ⟨0, Nat.zero_le _, rfl, rfl, unhide hst⟩
  case round =>
    obtain ⟨k, hk, rfl, rfl, hch⟩ := hrel
    clear hst
    by_cases hlt : k < N
    · have ct := hch.times.cell hlt
      have ft := hch.times.frozen k
      have cs : wr.cell? ⟨w.heap.size + 1 + 1, k + 1, none⟩ = _ := hch.starts.cell (i := k + 1) (by omega)
      have fs : wr.frozen? ⟨w.heap.size + 1 + 1, k + 1, none⟩ = _ := hch.starts.frozen (k + 1)
      have hsz := hch.size
      simp only [Nat.lt_irrefl, if_false, show ¬ k + 1 ≤ k by omega] at ct cs
      cases k with
      | zero =>
        have H := hide hch
        clear hch
        go_wp2
        go_roundw
        case measure => simp [intOf]; omega
        case rel => exact ⟨1, by omega, rfl, rfl, (unhide H).first⟩
      | succ k =>
        have hpar := hch.setTime.2.2.2.1
        simp only [Nat.add_sub_cancel] at hpar
        have H := hide hch
        clear hch
        simp only [Nat.add_sub_cancel]
        go_wp2_with (at_builtin; refine wpList_append_fits _ rfl _ _ 31 rfl (w.heap.size + 1) 33 i0 1 Try.underlying31 hi hz1 (w.heap.size + 1) k N _ rfl (hpar.alloc _) ⟨wr.heap.size, 0, none⟩ 1 1 [.int .u32 (k : Int)] rfl rfl ?c1 ?c2 ?c3 ?_)
        case c1 =>
          exact one_new _ _ _ _ (by simp [World.setCell])
        case c2 => intro u hu; simp at hu; subst hu; rfl
        case c3 => omega
        intro w1 hown1 hgrow
        obtain ⟨cs1, fs1⟩ := (unhide H).at1 hlt hgrow
        have HN := hide ((unhide H).next hown1 hgrow)
        clear hown1 hgrow hpar cs fs ct ft
        go_wp2
        go_roundw
        case measure => simp [intOf]; omega
        case rel => exact ⟨k + 1 + 1, by omega, rfl, rfl, unhide HN⟩
    · have hkN : N = k := by omega
      subst hkN
      have HCH := hide hch
      have hsz := hch.size
      clear hch hlt
      go_wp2_with fail
      refine (zzNewGraph_any _ _ _ _ ⟨_, _, _, rfl⟩ ⟨_, _, _, rfl⟩ ⟨_, _, _, rfl⟩).mono ?_
      rintro e w2 ⟨rfl, rfl⟩
      go_wp2_with fail
      refine (zzNumber_any (wr.alloc _) wr.heap.size N (fun _ => t) chP (chC t) (some ⟨w.heap.size, 0, none⟩) w.heap.size N (w.heap.size + 1 + 1) (N + 1) (N - 1) N (some ⟨w.heap.size + 1, 0, none⟩) (w.heap.size + 1) (fun j => j - 1) _ _ (fun _ => rfl) (Deep.blk_alloc_new _ _) ((unhide HCH).cols hN h0 ht _)).mono ?_
      rintro e w3 ⟨rfl, ge, hcore⟩
      have hb := (unhide HCH).below
      have hbel : Below w.heap.size w w3 := (hb.alloc (by omega) _).trans (hcore.below.mono (by omega))
      obtain ⟨C, d2, d6, hrow0⟩ := hcore.out
      have hrow := hide hrow0
      have hT := hide fun j (hj : j < N) => (hcore.below.cell (p := ⟨w.heap.size, j, none⟩) (by show w.heap.size < wr.heap.size; omega)).trans (((unhide HCH).cols hN h0 ht _).tcell j hj)
      have hbelH := hide hbel
      clear hb hbel hcore HCH hd hi hz0 hz1 hz2 hrow0
      generalize wr.heap.size = G at *
      go_wp2
      go_loopw [10] (fun i wx => ∃ k : Nat, k ≤ N ∧ i = .int .i64 k ∧ ∃ nd, wx = w3.drewN nd) (fun i _ => N - (intOf i).toNat)
      case atStart => exact ⟨0, Nat.zero_le _, rfl, 0, rfl⟩
      case round =>
        obtain ⟨k, hk, rfl, nd, rfl⟩ := hrel
        by_cases hlt : k < N
        · have cc := unhide hrow k hlt
          have ct := unhide hT k hlt
          by_cases ht0 : t = 0
          · subst ht0
            have e0 : chC 0 k = (k : Int) + 1 := rfl
            rw [e0] at cc
            clear e0
            go_wp2_with (go_at_call 12; refine (zzDateOffset_any G C w.heap.size N k ((k : Int) + 1) 0 N N (w3.drewN nd) hlt d6 d2 cc ct (by omega) (by omega) (by omega)).mono ?_; rintro e w' ⟨rfl, nd2, rfl⟩)
            go_roundw
            case measure => simp [intOf]; omega
            case rel => exact ⟨k + 1, by omega, by go_num, _, rfl⟩
          · have e0 : chC t k = t + k := by unfold chC; rw [if_neg ht0]
            rw [e0] at cc
            clear e0
            have hb0 : (t == 0) = false := beq_eq_false_iff_ne.2 ht0
            go_wp2_with (go_at_call 12; refine (zzDateOffset_any G C w.heap.size N k (t + k) t N N (w3.drewN nd) hlt d6 d2 cc ct (by omega) (by omega) (by omega)).mono ?_; rintro e w' ⟨rfl, nd2, rfl⟩)
            go_roundw
            case measure => simp [intOf]; omega
            case rel => exact ⟨k + 1, by omega, by go_num, _, rfl⟩
        · go_wp2
          go_ret
          exact ⟨rfl, below_drewN (unhide hbelH) _⟩
end Go.Proofs.Qxb6614549a

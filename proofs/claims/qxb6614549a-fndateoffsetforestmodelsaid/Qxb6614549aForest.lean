import Derived.Test.Qxb6614549aForestParts
import Derived.Laws.CopyOwn
namespace Go.Proofs.Qxb6614549a
open Go.RowKit

set_option maxRecDepth 100000 in
set_option maxHeartbeats 1000000 in
theorem forest_main (b0 o0 b1 o1 cap0 cap1 n : Nat) (T Q : Nat → Int) (w : World) (hn : 0 < n) (hn1 : n ≤ 4096) (hb0 : b0 < w.heap.size) (hb1 : b1 < w.heap.size)
    (hT : ∀ j, j < n → w.cell? ⟨b0, o0 + j, none⟩ = some (.int .u64 (T j))) (hQ : ∀ j, j < n → w.cell? ⟨b1, o1 + j, none⟩ = some (.int .i32 (Q j)))
    (bT : ∀ j, j < n → 0 ≤ T j ∧ T j ≤ 18446744073709551615) (bQ : ∀ j, j < n → -2147483648 ≤ Q j ∧ Q j ≤ 2147483647) :
    Calls Try.prog 5 #[.slice (some ⟨b0, o0, none⟩) n cap0, .slice (some ⟨b1, o1, none⟩) n cap1] w fun e w' => e = .returned (.bool true) ∧ Below w.heap.size w w' := by
  have HT := hide hT
  have HQ := hide hQ
  have BT := hide bT
  have BQ := hide bQ
  clear hT hQ bT bQ
  have hmk1 := run_make_row' (P := Try.prog) 27 30 (.int .u64 0) 8 Try.underlying27 info30 rfl .i64 .i64 n (by omega) (by omega)
  have hmk3 := run_make_row' (P := Try.prog) 32 3 (.int .i64 0) 8 Try.underlying32 info3 rfl .i64 .i64 (n + 1) (by omega) (by omega)
  rw [show ((n + 1 : Nat) : Int) = (n : Int) + 1 by omega] at hmk3
  have hnil := fun w0 => run_neq_slice_nil_any (P := Try.prog) w0 27 30 (some ⟨b0, o0, none⟩) n cap0 0 0 Try.underlying27
  have hd1 : decide ((4096 : Int) < (n : Int)) = false := decide_eq_false (by omega)
  obtain ⟨i0, hi, hz0, hz1, hz2⟩ := info_parts info33
  go_enter Try.func5, Try.ntmps5
  go_wp2
  go_loop [6] (fun i => ∃ k : Nat, k ≤ n ∧ i = .int .i64 k ∧ Hid (∀ j, j < k → Q j < j ∧ T j ≤ 18446744073709551615 - n)) (fun i => n - (intOf i).toNat)
  case atStart => exact ⟨0, Nat.zero_le _, rfl, hide fun j h => by omega⟩
  case round =>
    obtain ⟨k, hk, rfl, HR⟩ := hrel
    by_cases hlt : k < n
    · have ct := unhide HT k hlt
      have cq := unhide HQ k hlt
      obtain ⟨t0, t1⟩ := unhide BT k hlt
      obtain ⟨q0, q1⟩ := unhide BQ k hlt
      have hlt' : (k : Int) < (n : Int) := by omega
      by_cases g1 : (k : Int) ≤ Q k
      · go_wp2
        go_ret
        exact ⟨rfl, Below.refl _ _⟩
      by_cases g2 : 18446744073709551615 - (n : Int) < T k
      · go_wp2
        go_ret
        exact ⟨rfl, Below.refl _ _⟩
      · go_wp2
        go_round
        case rel =>
          refine ⟨k + 1, by omega, by go_num, hide fun j hj => ?_⟩
          by_cases e : j = k
          · subst e; omega
          · exact unhide HR j (by omega)
        case measure => simp [intOf]; omega
    · have HR2 : Hid (∀ j, j < n → Q j < j ∧ T j ≤ 18446744073709551615 - n) := hide fun j hj => unhide HR j (by omega)
      have e : n = k := by omega
      clear HR hlt
      subst e
      have s1 := hide (copy_src hb0 (unhide HT) (.cells (madeCells #[.int .u64 0] n) 30))
      have s2 := hide (copy_dst w n)
      have s3 := hide (copy_len n)
      have s4 := hide (length_timesL T n)
      have sb : Below w.heap.size w (w.alloc (.cells (madeCells #[.int .u64 0] n) 30)) := (Below.refl _ _).alloc (Nat.le_refl _) _
      have s5 := hide sb
      clear sb
      have tok := hide trivial
      go_wp2_with (have _t := tok; refine wpList_copy_splice rfl (.tmp 61) (.tmp 62) 27 27 rfl 30 Try.underlying27 (by kernel_rfl) (some ⟨w.heap.size, 0, none⟩) (some ⟨b0, o0, none⟩) n n n cap0 rfl rfl w.heap.size 0 (madeCells #[.int .u64 0] n).toList 30 (unhide s2) (timesL T n) ?_ ?_ ?_ (timesL_one T n) w.heap.size w (unhide s5) (Nat.le_refl _) ?_; clear tok)
      case refine_1 => exact unhide s4
      case refine_2 => intro _ j v h; obtain ⟨hj, rfl⟩ := timesL_at h; exact unhide HT j hj
      case refine_3 => rw [length_timesL, size_madeCells]; exact Nat.le_refl _
      intro w1 hg1 hB1
      have hl1 : w.heap.size < w1.heap.size := lt_of_block hg1.out
      have HF := hide (Fo.start Q hB1 (Nat.le_refl _) hl1 (copied hg1.out))
      clear s1 s2 s3 s4 s5 hg1
      have HB1 := hide hB1
      clear hB1
      go_wp2
      generalize hsb : w1.heap.size = sb at *
      clear hsb
      go_loopw [8, 10] (fun v i wr => ∃ k : Nat, k ≤ n ∧ i = .int .i64 k ∧ Fo w wr n w.heap.size sb T Q k v) (fun _ i _ => n - (intOf i).toNat)
      case atStart => exact ⟨0, Nat.zero_le _, rfl, unhide HF⟩
      case round =>
        clear HF
        obtain ⟨k, hk, rfl, hfo⟩ := hrel
        obtain ⟨ao, cap, rfl, hcap⟩ := ownsRow_shape hfo.par
        by_cases hlt : k < n
        · have cq := (hfo.below.cell (p := ⟨b1, o1 + k, none⟩) hb1).trans (unhide HQ k hlt)
          obtain ⟨q0, q1⟩ := unhide BQ k hlt
          have hlt' : (k : Int) < (n : Int) := by omega
          have hcnt := cnt_le Q k
          have cs := hfo.starts.cell (i := k + 1) (by omega)
          have fs := hfo.starts.frozen (k + 1)
          simp only [show ¬ k + 1 ≤ k by omega, if_false] at cs
          by_cases hr : Q k < 0
          · have HN := hide (hfo.root hr)
            clear hfo
            go_wp2
            go_roundw
            case rel => exact ⟨k + 1, by omega, by go_num, unhide HN⟩
            case measure => simp [intOf]; omega
          · have hown := hfo.par
            have HH := hide hfo
            have hsz := hfo.size
            clear hfo
            go_wp2_with (at_builtin; refine wpList_append_own _ rfl _ _ 31 rfl (sb + 1) 33 i0 (.int .u32 0) 1 4 Try.underlying31 hi hz0 hz1 hz2 rfl (by decide) _ _ _ rfl (hown.alloc _) ⟨wr.heap.size, 0, none⟩ 1 1 [.int .u32 (Q k)] rfl rfl ?c1 ?c2 ?c3 ?c4 ?c5 ?_)
            case c2 => rfl
            case c3 => unfold maxLen; omega
            case c4 => omega
            case c5 => omega
            intro v' w2 hown' hgrow _
            obtain ⟨hst, hbb, hfo2⟩ := (unhide HH).child (by omega) hown' hgrow
            obtain ⟨ao', cap', hv', _⟩ := ownsRow_shape hown'
            have cs2 := hst.cell (i := k + 1) (by omega)
            have fs2 := hst.frozen (k + 1)
            simp only [show ¬ k + 1 ≤ k by omega, if_false] at cs2
            rw [hv'] at hfo2 ⊢
            have HN := hide hfo2
            clear hfo2 hst hbb hown' hgrow hown hv' HH cs fs
            go_wp2
            go_roundw
            case rel => exact ⟨k + 1, by omega, by go_num, unhide HN⟩
            case measure => simp [intOf]; omega
        · have e : n = k := by omega
          clear hlt
          subst e
          obtain ⟨pb, hcols⟩ := hfo.cols hn1 hcap (fun j hj => (unhide HR2 j hj).1) (fun j hj => (unhide HR2 j hj).2) (graphObj (.slice (some ⟨w.heap.size, 0, none⟩) n n) (.slice ao (cnt Q n) cap) (.slice (some ⟨sb, 0, none⟩) (n + 1) (n + 1)) (.slice none 0 0) (.slice none 0 0))
          have HCO := hide hcols
          have HFO := hide hfo
          have hsz := hfo.size
          clear hcols hfo
          go_wp2_with fail
          refine (zzNewGraph_any _ _ _ _ ⟨_, _, _, rfl⟩ ⟨_, _, _, rfl⟩ ⟨_, _, _, rfl⟩).mono ?_
          rintro e w2 ⟨rfl, rfl⟩
          go_wp2_with fail
          refine (zzNumber_any (wr.alloc _) wr.heap.size n T (foP Q) (cor T Q) (some ⟨w.heap.size, 0, none⟩) w.heap.size n sb (n + 1) (cnt Q n) cap ao pb (cnt Q) _ _ (fun _ => rfl) (Deep.blk_alloc_new _ _) (unhide HCO)).mono ?_
          rintro e w3 ⟨rfl, ge, hcore⟩
          have hbel : Below w.heap.size w w3 := ((unhide HFO).below.alloc (by have := (unhide HFO).ts; omega) _).trans (hcore.below.mono (by have := (unhide HFO).ts; omega))
          obtain ⟨C, d2, d6, hrow0⟩ := hcore.out
          have hrow := hide hrow0
          have hT3 := hide fun j (hj : j < n) => (hcore.below.cell (p := ⟨w.heap.size, j, none⟩) (by have := (unhide HFO).ts; show w.heap.size < wr.heap.size; omega)).trans ((unhide HCO).tcell j hj)
          have hbelH := hide hbel
          clear hbel hcore HFO HCO hrow0 hcap hi hz0 hz1 hz2 hmk1 hmk3 hnil HB1
          generalize wr.heap.size = G at *
          clear hd1
          go_wp2
          go_loopw [12] (fun i wx => ∃ k : Nat, k ≤ n ∧ i = .int .i64 k ∧ ∃ nd, wx = w3.drewN nd) (fun i _ => n - (intOf i).toNat)
          case atStart => exact ⟨0, Nat.zero_le _, rfl, 0, rfl⟩
          case round =>
            obtain ⟨k, hk, rfl, nd, rfl⟩ := hrel
            by_cases hlt : k < n
            · have HQ1 : Hid (∀ j, j < n → Q j < j) := hide fun j hj => (unhide HR2 j hj).1
              have HT1 : Hid (∀ j, j < n → T j ≤ 18446744073709551615 - n) := hide fun j hj => (unhide HR2 j hj).2
              have cc := unhide hrow k hlt
              have ct3 := unhide hT3 k hlt
              have ctk := ((unhide hbelH).cell (p := ⟨b0, o0 + k, none⟩) hb0).trans (unhide HT k hlt)
              have x1 := cor_ge (T := T) (unhide HQ1) hlt
              have x2 := cor_le (unhide HQ1) (unhide HT1) (by omega) k hlt
              obtain ⟨x0, _⟩ := unhide BT k hlt
              obtain ⟨X, hX⟩ : ∃ X, cor T Q k = X := ⟨_, rfl⟩
              rw [hX] at cc x1 x2
              have HX := hide hX
              clear hX
              have HZ : Hid (∀ m, Calls Try.prog 12 #[.pointer (some ⟨G, 0, none⟩), .int .i64 (k : Int)] (w3.drewN (nd + m)) fun e w'' => e = .returned (.int .u64 (X - T k)) ∧ ∃ q, w'' = w3.drewN (nd + q)) := hide fun m =>
                (zzDateOffset_any G C w.heap.size n k X (T k) n n (w3.drewN (nd + m)) hlt d6 d2 cc ct3 x0 x1 (by omega)).mono fun _ _ ⟨he, q, hq⟩ => ⟨he, m + q, by rw [hq, World.drewN_drewN, Nat.add_assoc]⟩
              have hlt' : (k : Int) < (n : Int) := by omega
              go_wp2
              go_loop [13, 14, 15] (fun b v d => ∃ (bi : Int) (vn dn : Nat), b = .int .u64 bi ∧ v = .int .i64 vn ∧ d = .int .u64 dn ∧ vn + dn ≤ k ∧ 0 ≤ bi ∧ Hid (max bi (cor T Q vn + dn) = cor T Q k)) (fun _ v _ => (intOf v).toNat)
              case atStart => exact ⟨0, k, 0, rfl, rfl, rfl, by omega, by omega, hide (by rw [unhide HX]; omega)⟩
              case round =>
                obtain ⟨bi, vn, dn, rfl, rfl, rfl, hvd, hbi, HM⟩ := hrel
                have cv := ((unhide hbelH).cell (p := ⟨b0, o0 + vn, none⟩) hb0).trans (unhide HT vn (by omega))
                have cp := ((unhide hbelH).cell (p := ⟨b1, o1 + vn, none⟩) hb1).trans (unhide HQ vn (by omega))
                have hq := unhide HQ1 vn (by omega)
                have ht1 := unhide HT1 vn (by omega)
                obtain ⟨ht0, _⟩ := unhide BT vn (by omega)
                obtain ⟨hq0, hq1⟩ := unhide BQ vn (by omega)
                have hvn : (vn : Int) < (n : Int) := by omega
                by_cases hr : Q vn < 0
                · have HS := summit hr (unhide HM)
                  rw [unhide HX] at HS
                  obtain ⟨t, ht⟩ : ∃ t, T vn = t := ⟨_, rfl⟩
                  rw [ht] at cv ht1 ht0 HS
                  clear ht HM
                  by_cases hz : t = 0
                  · subst hz
                    by_cases hgt : bi < 1 + (dn : Int)
                    · have e : 1 + (dn : Int) = X := by omega
                      clear HS
                      go_wp2
                      go_quiet ((go_at_call 12; exact unhide HZ _))
                      go_wp2
                      go_roundw
                      case rel => exact ⟨k + 1, by omega, by go_num, _, rfl⟩
                      case measure => simp [intOf]; omega
                    · have e : bi = X := by omega
                      subst e
                      clear HS
                      go_wp2
                      go_quiet ((go_at_call 12; exact unhide HZ _))
                      go_wp2
                      go_roundw
                      case rel => exact ⟨k + 1, by omega, by go_num, _, rfl⟩
                      case measure => simp [intOf]; omega
                  · have hb0' : (t == 0) = false := beq_eq_false_iff_ne.2 hz
                    by_cases hgt : bi < t + (dn : Int)
                    · have e : t + (dn : Int) = X := by omega
                      clear HS
                      go_wp2
                      go_quiet ((go_at_call 12; exact unhide HZ _))
                      go_wp2
                      go_roundw
                      case rel => exact ⟨k + 1, by omega, by go_num, _, rfl⟩
                      case measure => simp [intOf]; omega
                    · have e : bi = X := by omega
                      subst e
                      clear HS
                      go_wp2
                      go_quiet ((go_at_call 12; exact unhide HZ _))
                      go_wp2
                      go_roundw
                      case rel => exact ⟨k + 1, by omega, by go_num, _, rfl⟩
                      case measure => simp [intOf]; omega
                · by_cases hgt : bi < T vn + dn
                  · have HCl := hide (climb (unhide HQ1) (show vn < n by omega) hr (unhide HM) (show T vn + dn = max bi (T vn + dn) by omega))
                    go_wp2
                    go_round
                    case rel => exact ⟨_, (Q vn).toNat, dn + 1, rfl, by go_num, by go_num, by omega, by omega, HCl⟩
                    case measure => simp [intOf]; omega
                  · have HCl := hide (climb (unhide HQ1) (show vn < n by omega) hr (unhide HM) (show bi = max bi (T vn + dn) by omega))
                    go_wp2
                    go_round
                    case rel => exact ⟨_, (Q vn).toNat, dn + 1, rfl, by go_num, by go_num, by omega, by omega, HCl⟩
                    case measure => simp [intOf]; omega
            · go_wp2
              go_ret
              exact ⟨rfl, below_drewN (unhide hbelH) _⟩
end Go.Proofs.Qxb6614549a

import Derived.Test.Qxb6614592aCopy
namespace Go.Proofs.Qxb6614592a
open Go.RowKit

theorem bytes15 (ao bo : Option Addr) (n m ac bc : Nat) (hn : n ≤ 65536) (hm : m ≤ 65536) (w : World) :
    Calls Try.prog 15 #[.slice ao n ac, .slice bo m bc] w fun e w' => e = .returned (.bool true) ∧ w = w' := by
  go_enter Try.func15, Try.ntmps15
  go_wp2
  go_ret
  exact ⟨rfl, rfl⟩
theorem below_one (w : World) (o : Obj) : Below w.heap.size w (w.alloc o) := (Below.refl _ _).alloc (Nat.le_refl _) _

set_option maxRecDepth 100000 in
set_option maxHeartbeats 1000000 in
theorem raw_ss (x : Addr) (n : Nat) (y : Addr) (m : Nat) (ac bc : Nat) (f g : Nat → Int) (w : World) (ha : Src w (some x) n f) (hb : Src w (some y) m g) :
    Calls Try.prog 6 #[.slice (some x) n ac, .slice (some y) m bc] w fun e w' => e = .returned (.bool true) ∧ Below w.heap.size w w' := by
  have hn := ha.short
  have hda : decide ((65536 : Int) < (n : Int)) = false := decide_eq_false (by omega)
  have hmka := run_make_row' (P := Try.prog) 26 5 (.int .u8 0) 1 Try.underlying26 info5 rfl .i64 .i64 n (by omega) (by omega)
  have hm := hb.short
  have hdb : decide ((65536 : Int) < (m : Int)) = false := decide_eq_false (by omega)
  have hmkb := run_make_row' (P := Try.prog) 26 5 (.int .u8 0) 1 Try.underlying26 info5 rfl .i64 .i64 m (by omega) (by omega)
  have hnil := fun w0 o p q => run_neq_slice_nil_any (P := Try.prog) w0 26 5 o p q 0 0 Try.underlying26
  have HA := hide ha
  clear ha
  have HB := hide hb
  clear hb
  go_enter Try.func6, Try.ntmps6
  go_wp2_with fail
  refine (bytes15 (some x) (some y) n m ac bc (by omega) (by omega) _).mono ?_
  rintro e w' ⟨rfl, rfl⟩
  have tok1 := hide trivial
  go_wp2_with (have _t := tok1; refine wpList_copy_splice rfl (.tmp 25) (.tmp 26) 26 26 rfl 5 Try.underlying26 size5 (some ⟨w.heap.size, 0, none⟩) (some x) n n n ac rfl rfl w.heap.size 0 (freshRow n) 5 (cp_dst w n) (bytesL f n) (cp_len f n) (cp_src (unhide HA) _ _) (cp_fit f n) (bytesL_one f n) w.heap.size w (below_one w _) (Nat.le_refl _) ?_; clear tok1)
  intro w1 hg1 hB1
  have hl1 : w.heap.size < w1.heap.size := lt_of_block hg1.out
  have ba1 := copied hn (unhide HA).byte hg1.out
  have BA1 := hide ba1
  have bel1 := hide hB1
  have HB1 := hide ((unhide HB).later hB1)
  clear hg1 hB1 ba1 HA hmka
  have tok2 := hide trivial
  go_wp2_with (have _t := tok2; refine wpList_copy_splice rfl (.tmp 34) (.tmp 35) 26 26 rfl 5 Try.underlying26 size5 (some ⟨w1.heap.size, 0, none⟩) (some y) m m m bc rfl rfl w1.heap.size 0 (freshRow m) 5 (cp_dst w1 m) (bytesL g m) (cp_len g m) (cp_src (unhide HB1) _ _) (cp_fit g m) (bytesL_one g m) w1.heap.size w1 (below_one w1 _) (Nat.le_refl _) ?_; clear tok2)
  intro w2 hg2 hB2
  have hl2 : w1.heap.size < w2.heap.size := lt_of_block hg2.out
  have bb2 := copied hm (unhide HB1).byte hg2.out
  have ba2 := (unhide BA1).later (hB2.mono (by omega))
  have bel2 := (unhide bel1).trans (hB2.mono (Nat.le_of_lt hl1))
  clear hg2 hB2 hmkb
  have BA := hide ba2
  have BEL := hide bel2
  clear ba2 bb2 bel2
  go_wp2_with fail
  refine (zzRaw _ _ _ _ _ _ _).mono ?_
  rintro e w' ⟨rfl, hw⟩
  have hw' := hw.symm
  clear hw
  subst hw'
  go_wp2_with fail
  refine (zzRaw _ _ _ _ _ _ _).mono ?_
  rintro e w' ⟨rfl, hw⟩
  have hw' := hw.symm
  clear hw
  subst hw'
  go_wp2_with fail
  refine (zzEdRaw _ _ _ _ _ _ _).mono ?_
  rintro e w' ⟨rfl, hw⟩
  have hw' := hw.symm
  clear hw
  subst hw'
  go_wp2_with fail
  refine (zzRawEd _ _ _ _ _ _ _).mono ?_
  rintro e w' ⟨rfl, hw⟩
  have hw' := hw.symm
  clear hw
  subst hw'
  go_wp2_with fail
  refine (zzEdRaw _ _ _ _ _ _ _).mono ?_
  rintro e w' ⟨rfl, hw⟩
  have hw' := hw.symm
  clear hw
  subst hw'
  go_wp2_with fail
  refine (zzRawEd _ _ _ _ _ _ _).mono ?_
  rintro e w' ⟨rfl, hw⟩
  have hw' := hw.symm
  clear hw
  subst hw'
  go_wp2_with fail
  refine (copyBytes_some w2 w.heap.size n n f (unhide BA) (by omega)).mono ?_
  rintro e w9 ⟨rfl, hb9, hc9⟩
  have C14 := zzEd w9 (some ⟨w.heap.size, 0, none⟩) (some ⟨w2.heap.size, 0, none⟩) w.heap.size w2.heap.size n n n n f f ((unhide BA).later (hb9.mono (by omega))) hc9
  rw [eqB_refl] at C14
  have H14 := hide C14
  have BEL9 := hide ((unhide BEL).trans (hb9.mono (by omega)))
  clear C14 hb9 hc9
  go_wp2_with fail
  refine (unhide H14).mono ?_
  rintro e w' ⟨rfl, k1, rfl⟩
  go_wp2
  go_ret
  exact ⟨rfl, below_drewN (unhide BEL9) _⟩

set_option maxRecDepth 100000 in
set_option maxHeartbeats 1000000 in
theorem raw_sn (x : Addr) (n : Nat) (ac bc : Nat) (f g : Nat → Int) (w : World) (ha : Src w (some x) n f) :
    Calls Try.prog 6 #[.slice (some x) n ac, .slice none 0 bc] w fun e w' => e = .returned (.bool true) ∧ Below w.heap.size w w' := by
  have hn := ha.short
  have hda : decide ((65536 : Int) < (n : Int)) = false := decide_eq_false (by omega)
  have hmka := run_make_row' (P := Try.prog) 26 5 (.int .u8 0) 1 Try.underlying26 info5 rfl .i64 .i64 n (by omega) (by omega)
  have hnil := fun w0 o p q => run_neq_slice_nil_any (P := Try.prog) w0 26 5 o p q 0 0 Try.underlying26
  have HA := hide ha
  clear ha
  go_enter Try.func6, Try.ntmps6
  go_wp2_with fail
  refine (bytes15 (some x) none n 0 ac bc (by omega) (by omega) _).mono ?_
  rintro e w' ⟨rfl, rfl⟩
  have tok1 := hide trivial
  go_wp2_with (have _t := tok1; refine wpList_copy_splice rfl (.tmp 25) (.tmp 26) 26 26 rfl 5 Try.underlying26 size5 (some ⟨w.heap.size, 0, none⟩) (some x) n n n ac rfl rfl w.heap.size 0 (freshRow n) 5 (cp_dst w n) (bytesL f n) (cp_len f n) (cp_src (unhide HA) _ _) (cp_fit f n) (bytesL_one f n) w.heap.size w (below_one w _) (Nat.le_refl _) ?_; clear tok1)
  intro w1 hg1 hB1
  have hl1 : w.heap.size < w1.heap.size := lt_of_block hg1.out
  have ba1 := copied hn (unhide HA).byte hg1.out
  have BA1 := hide ba1
  have bel1 := hide hB1
  clear hg1 hB1 ba1 HA hmka
  have ba2 := unhide BA1
  have bb2 := Bts.nil w1 w1.heap.size g
  have bel2 := unhide bel1
  have BA := hide ba2
  have BEL := hide bel2
  clear ba2 bb2 bel2
  go_wp2_with fail
  refine (zzRaw _ _ _ _ _ _ _).mono ?_
  rintro e w' ⟨rfl, hw⟩
  have hw' := hw.symm
  clear hw
  subst hw'
  go_wp2_with fail
  refine (zzRaw _ _ _ _ _ _ _).mono ?_
  rintro e w' ⟨rfl, hw⟩
  have hw' := hw.symm
  clear hw
  subst hw'
  go_wp2_with fail
  refine (zzEdRaw _ _ _ _ _ _ _).mono ?_
  rintro e w' ⟨rfl, hw⟩
  have hw' := hw.symm
  clear hw
  subst hw'
  go_wp2_with fail
  refine (zzRawEd _ _ _ _ _ _ _).mono ?_
  rintro e w' ⟨rfl, hw⟩
  have hw' := hw.symm
  clear hw
  subst hw'
  go_wp2_with fail
  refine (zzEdRaw _ _ _ _ _ _ _).mono ?_
  rintro e w' ⟨rfl, hw⟩
  have hw' := hw.symm
  clear hw
  subst hw'
  go_wp2_with fail
  refine (zzRawEd _ _ _ _ _ _ _).mono ?_
  rintro e w' ⟨rfl, hw⟩
  have hw' := hw.symm
  clear hw
  subst hw'
  go_wp2_with fail
  refine (copyBytes_some w1 w.heap.size n n f (unhide BA) (by omega)).mono ?_
  rintro e w9 ⟨rfl, hb9, hc9⟩
  have C14 := zzEd w9 (some ⟨w.heap.size, 0, none⟩) (some ⟨w1.heap.size, 0, none⟩) w.heap.size w1.heap.size n n n n f f ((unhide BA).later (hb9.mono (by omega))) hc9
  rw [eqB_refl] at C14
  have H14 := hide C14
  have BEL9 := hide ((unhide BEL).trans (hb9.mono (by omega)))
  clear C14 hb9 hc9
  go_wp2_with fail
  refine (unhide H14).mono ?_
  rintro e w' ⟨rfl, k1, rfl⟩
  go_wp2
  go_ret
  exact ⟨rfl, below_drewN (unhide BEL9) _⟩

set_option maxRecDepth 100000 in
set_option maxHeartbeats 1000000 in
theorem raw_ns (y : Addr) (m : Nat) (ac bc : Nat) (f g : Nat → Int) (w : World) (hb : Src w (some y) m g) :
    Calls Try.prog 6 #[.slice none 0 ac, .slice (some y) m bc] w fun e w' => e = .returned (.bool true) ∧ Below w.heap.size w w' := by
  have hm := hb.short
  have hdb : decide ((65536 : Int) < (m : Int)) = false := decide_eq_false (by omega)
  have hmkb := run_make_row' (P := Try.prog) 26 5 (.int .u8 0) 1 Try.underlying26 info5 rfl .i64 .i64 m (by omega) (by omega)
  have hnil := fun w0 o p q => run_neq_slice_nil_any (P := Try.prog) w0 26 5 o p q 0 0 Try.underlying26
  have HB := hide hb
  clear hb
  go_enter Try.func6, Try.ntmps6
  go_wp2_with fail
  refine (bytes15 none (some y) 0 m ac bc (by omega) (by omega) _).mono ?_
  rintro e w' ⟨rfl, rfl⟩
  have tok2 := hide trivial
  go_wp2_with (have _t := tok2; refine wpList_copy_splice rfl (.tmp 34) (.tmp 35) 26 26 rfl 5 Try.underlying26 size5 (some ⟨w.heap.size, 0, none⟩) (some y) m m m bc rfl rfl w.heap.size 0 (freshRow m) 5 (cp_dst w m) (bytesL g m) (cp_len g m) (cp_src (unhide HB) _ _) (cp_fit g m) (bytesL_one g m) w.heap.size w (below_one w _) (Nat.le_refl _) ?_; clear tok2)
  intro w2 hg2 hB2
  have hl2 : w.heap.size < w2.heap.size := lt_of_block hg2.out
  have bb2 := copied hm (unhide HB).byte hg2.out
  have ba2 := Bts.nil w2 w2.heap.size f
  have bel2 := hB2
  clear hg2 hB2 hmkb
  have BA := hide ba2
  have BEL := hide bel2
  clear ba2 bb2 bel2
  go_wp2_with fail
  refine (zzRaw _ _ _ _ _ _ _).mono ?_
  rintro e w' ⟨rfl, hw⟩
  have hw' := hw.symm
  clear hw
  subst hw'
  go_wp2_with fail
  refine (zzRaw _ _ _ _ _ _ _).mono ?_
  rintro e w' ⟨rfl, hw⟩
  have hw' := hw.symm
  clear hw
  subst hw'
  go_wp2_with fail
  refine (zzEdRaw _ _ _ _ _ _ _).mono ?_
  rintro e w' ⟨rfl, hw⟩
  have hw' := hw.symm
  clear hw
  subst hw'
  go_wp2_with fail
  refine (zzRawEd _ _ _ _ _ _ _).mono ?_
  rintro e w' ⟨rfl, hw⟩
  have hw' := hw.symm
  clear hw
  subst hw'
  go_wp2_with fail
  refine (zzEdRaw _ _ _ _ _ _ _).mono ?_
  rintro e w' ⟨rfl, hw⟩
  have hw' := hw.symm
  clear hw
  subst hw'
  go_wp2_with fail
  refine (zzRawEd _ _ _ _ _ _ _).mono ?_
  rintro e w' ⟨rfl, hw⟩
  have hw' := hw.symm
  clear hw
  subst hw'
  go_wp2_with fail
  refine (copyBytes_nil _ _).mono ?_
  rintro e w' ⟨rfl, rfl⟩
  have C14 := zzEd w2 none none 0 0 0 0 ac 0 f f (Bts.nil _ _ _) (Bts.nil _ _ _)
  rw [eqB_refl] at C14
  have H14 := hide C14
  clear C14
  go_wp2_with fail
  refine (unhide H14).mono ?_
  rintro e w' ⟨rfl, k1, rfl⟩
  go_wp2
  go_ret
  exact ⟨rfl, below_drewN (unhide BEL) _⟩

set_option maxRecDepth 100000 in
set_option maxHeartbeats 1000000 in
theorem raw_nn (ac bc : Nat) (f g : Nat → Int) (w : World) :
    Calls Try.prog 6 #[.slice none 0 ac, .slice none 0 bc] w fun e w' => e = .returned (.bool true) ∧ Below w.heap.size w w' := by
  have hnil := fun w0 o p q => run_neq_slice_nil_any (P := Try.prog) w0 26 5 o p q 0 0 Try.underlying26
  go_enter Try.func6, Try.ntmps6
  go_wp2_with fail
  refine (bytes15 none none 0 0 ac bc (by omega) (by omega) _).mono ?_
  rintro e w' ⟨rfl, rfl⟩
  have ba2 := Bts.nil w w.heap.size f
  have bb2 := Bts.nil w w.heap.size g
  have bel2 := Below.refl w.heap.size w
  have BA := hide ba2
  have BEL := hide bel2
  clear ba2 bb2 bel2
  go_wp2_with fail
  refine (zzRaw _ _ _ _ _ _ _).mono ?_
  rintro e w' ⟨rfl, hw⟩
  have hw' := hw.symm
  clear hw
  subst hw'
  go_wp2_with fail
  refine (zzRaw _ _ _ _ _ _ _).mono ?_
  rintro e w' ⟨rfl, hw⟩
  have hw' := hw.symm
  clear hw
  subst hw'
  go_wp2_with fail
  refine (zzEdRaw _ _ _ _ _ _ _).mono ?_
  rintro e w' ⟨rfl, hw⟩
  have hw' := hw.symm
  clear hw
  subst hw'
  go_wp2_with fail
  refine (zzRawEd _ _ _ _ _ _ _).mono ?_
  rintro e w' ⟨rfl, hw⟩
  have hw' := hw.symm
  clear hw
  subst hw'
  go_wp2_with fail
  refine (zzEdRaw _ _ _ _ _ _ _).mono ?_
  rintro e w' ⟨rfl, hw⟩
  have hw' := hw.symm
  clear hw
  subst hw'
  go_wp2_with fail
  refine (zzRawEd _ _ _ _ _ _ _).mono ?_
  rintro e w' ⟨rfl, hw⟩
  have hw' := hw.symm
  clear hw
  subst hw'
  go_wp2_with fail
  refine (copyBytes_nil _ _).mono ?_
  rintro e w' ⟨rfl, rfl⟩
  have C14 := zzEd w none none 0 0 0 0 ac 0 f f (Bts.nil _ _ _) (Bts.nil _ _ _)
  rw [eqB_refl] at C14
  have H14 := hide C14
  clear C14
  go_wp2_with fail
  refine (unhide H14).mono ?_
  rintro e w' ⟨rfl, k1, rfl⟩
  go_wp2
  go_ret
  exact ⟨rfl, below_drewN (unhide BEL) _⟩
end Go.Proofs.Qxb6614592a

/-
  THE PROOF OF 'Rows.FnNewBlockCacheLeastWholeBlocksSaid': the given shell, its hole filled; the walk's end is said by 'Below' in the place of 'Grown'.
-/
import Derived.Test.Qxb6614549aRows
import Derived.WalkKit
import Derived.ProofKit
import Derived.OpenShut
import Derived.ShutString
import Derived.ChangeOld
import Derived.Below
import Derived.Test.Qxb6614549aCache
namespace Go.Proofs.Qxb6614549a.fnNewBlockCacheLeastWholeBlocks
open Go.ChangeShapes Go.WideShapes Go.ChangeAt Go.RowKit
open Go.ChangeMaps (open_string shut_string)
set_option linter.unusedVariables false      -- a walk need not use every 'w<i>' (that an integer argument fits its kind)

theorem own : ownKnob Try.prog.godebug = none := by kernel_rfl

/-! ### THE PLAIN LAW: no Go in sight -/
open Cache (slots slots_le zzCache_any)
theorem least {s : Int} (h0 : 0 ≤ s) (h : slots s < 2048) : s ≤ (slots s : Int) * 4096 ∧ (0 < slots s → (slots s : Int) * 4096 - 4096 < s) := by
  unfold slots at *; omega
theorem capped {s : Int} (h : ¬ slots s < 2048) : 8384512 < s := by
  unfold slots at *; omega
theorem whole (n : Nat) (h : n ≤ 2048) : slots ((n : Int) * 4096) = n := by
  unfold slots; omega

/-! ### STEP 1: THE WALK: the Go text returns true, and writes nothing that was there. -/
set_option maxRecDepth 100000 in
set_option maxHeartbeats 400000 in
theorem walk (a0 : Int) (w0 : (Lit.int .i64 a0).wf = true) (w : World) :
    Calls Try.prog 4 #[.int .i64 a0] w fun e w' => e = .returned (.bool true) ∧ Below w.heap.size w w' := by
  clear w0
  by_cases h1 : a0 < 0
  · go_enter Try.func4, Try.ntmps4
    go_wp2
    go_ret
    exact ⟨rfl, Below.refl _ _⟩
  by_cases h2 : 9223372036854771712 < a0
  · go_enter Try.func4, Try.ntmps4
    go_wp2
    go_ret
    exact ⟨rfl, Below.refl _ _⟩
  have hle := slots_le a0
  have C1 := zzCache_any a0 (by omega) (by omega)
  have hcap := fun h => capped (s := a0) h
  have hleast := fun h => least (s := a0) (by omega) h
  have hw := whole _ hle
  generalize slots a0 = n at *
  have C2 := zzCache_any ((n : Int) * 4096) (by omega) (by omega)
  rw [hw] at C2
  have HC1 : Hid _ := C1
  have HC2 : Hid _ := C2
  clear C1 C2 hw
  by_cases h3 : n < 2048
  · obtain ⟨e1, e2⟩ := hleast h3
    clear hleast hcap
    by_cases h4 : 0 < n
    · have e3 := e2 h4
      clear e2
      go_enter Try.func4, Try.ntmps4
      go_wp2_with fail
      refine (HC1.out _).mono ?_
      rintro e wa ⟨rfl, hb1⟩
      go_wp2_with fail
      refine (HC2.out _).mono ?_
      rintro e wb ⟨rfl, hb2⟩
      go_wp2
      go_ret
      exact ⟨rfl, hb1.trans (hb2.mono hb1.size)⟩
    · clear e2
      go_enter Try.func4, Try.ntmps4
      go_wp2_with fail
      refine (HC1.out _).mono ?_
      rintro e wa ⟨rfl, hb1⟩
      go_wp2_with fail
      refine (HC2.out _).mono ?_
      rintro e wb ⟨rfl, hb2⟩
      go_wp2
      go_ret
      exact ⟨rfl, hb1.trans (hb2.mono hb1.size)⟩
  · have e1 := hcap h3
    clear hleast hcap
    go_enter Try.func4, Try.ntmps4
    go_wp2_with fail
    refine (HC1.out _).mono ?_
    rintro e wa ⟨rfl, hb1⟩
    go_wp2_with fail
    refine (HC2.out _).mono ?_
    rintro e wb ⟨rfl, hb2⟩
    go_wp2
    go_ret
    exact ⟨rfl, hb1.trans (hb2.mono hb1.size)⟩

/-! ### THE ROW's STEP: WRITTEN OUT: LEAVE IT -/
set_option maxRecDepth 100000 in
theorem lifted (os : Os) (started : os.Started) (H : Type) (enc : TypeId × Value → H) :
    ReturnsInHanded {} Try.checked os 4 .any (Rows.fnNewBlockCacheLeastWholeBlocksSpec.pre6 enc Try.prog Try.f4 Rows.fnNewBlockCacheLeastWholeBlocksRow.domain false) (Rows.fnNewBlockCacheLeastWholeBlocksSpec.post enc Try.prog Try.f4 false true false false) := by
  refine returnsInHanded_of_change (C := Try.checked) own started (by kernel_rfl) Try.func4
    (ChangeSpec.witness6 (enc := enc) (C := Try.checked) false ⟨#[], #[.int .i64 0], []⟩ 8 (by kernel_rfl) (by kernel_rfl) (by kernel_rfl) (by kernel_rfl)) ?_
  intro W base args ds gs before hval0 hW hcnd _
  have hval : ∀ (j : Nat) t v, Try.f4.params[j]? = some t → args[j]? = some v → Value.okWide Try.prog W .any base t v := hval0
  have hW' := hW
  obtain ⟨p, q, hA0, hV, rfl, hfz, hnd⟩ := hW
  have hA : DataW.TrodAll enc Try.prog W 0 (fun _ => true) true Try.f4.params.toList args.toList ds p := hA0
  rw [Try.params4] at hA hval
  obtain ⟨v0, vs0, d0, ds0, p0, q0, hargs, rfl, rfl, h0, r0⟩ := trodAll_cons hA
  obtain ⟨rfl, rfl, rfl⟩ := trodAll_nil r0
  obtain rfl : args = #[v0] := by cases args; simp_all
  obtain ⟨rfl, rfl⟩ := trodVars_none hV
  obtain ⟨a0, rfl, rfl, rfl, w0⟩ := open_int Try.underlying2 (hval 0 2 v0 rfl rfl) h0
  clear hA0 hval0
  simp only [List.append_nil] at hW'
  refine (walk a0 w0 W).mono fun e W' ⟨he, bel⟩ => ?_
  subst he
  exact ⟨_, rfl, _, _, _, [], _, [], hW', trodAll_mk1 (shut_bool Try.underlying4 _), (trodAll_cons_mk (shut_int Try.underlying2 w0) trodAll_mk0), rfl, bel.frame _, fun h => by cases h⟩

theorem over : Rows.fnNewBlockCacheLeastWholeBlocksRow.holds Try.pinned (OpenSpec.ofChange Rows.fnNewBlockCacheLeastWholeBlocksSpec) :=
  OpenClaim.holds_of_wide 4 Try.f4 rfl rfl rfl rfl rfl rfl rfl ⟨rfl, rfl, rfl, rfl, rfl⟩ rfl rfl rfl rfl rfl (by kernel_rfl) Try.func4 (by kernel_rfl)
    (of_decide_eq_true (by kernel_rfl)) (by unfold Func.isWrapper; first | (rw [if_pos (by decide +kernel)]; kernel_rfl) | (rw [if_neg (by decide +kernel)]; exact ⟨rfl, rfl⟩))
    (fun os started H enc _ => lifted os started H enc)

/-- ████ THE STATEMENT ████ -/
theorem proved : Rows.FnNewBlockCacheLeastWholeBlocksSaid :=
  over
#print axioms proved
end Go.Proofs.Qxb6614549a.fnNewBlockCacheLeastWholeBlocks

/-
  THE PROOF OF 'Rows.FnCheckCARefusalSplitsInTwoSaid': the given shell, its hole filled; the walk's end is said by 'Below' in the place of 'Grown'.
-/
import Derived.Test.Qxb6615030aRows
import Derived.WalkKit
import Derived.ProofKit
import Derived.OpenShut
import Derived.ShutString
import Derived.ChangeOld
import Derived.Below
import Derived.Test.Qxb6615030aBits
namespace Go.Proofs.Qxb6615030a.fnCheckCARefusalSplitsInTwo
open Go.ChangeShapes Go.WideShapes Go.ChangeAt Go.RowKit
open Go.ChangeMaps (open_string shut_string)
set_option linter.unusedVariables false      -- a walk need not use every 'w<i>' (that an integer argument fits its kind)

theorem own : ownKnob Try.prog.godebug = none := by kernel_rfl

theorem fin {w wa wb wc wd : World} (a : Below w.heap.size w wa) (b : Below wa.heap.size wa wb) (c : Below wb.heap.size wb wc) (d : Below wc.heap.size wc wd) : Below w.heap.size w wd :=
  ((a.trans (b.mono a.size)).trans (c.mono (Nat.le_trans a.size b.size))).trans (d.mono (Nat.le_trans (Nat.le_trans a.size b.size) c.size))

/-! ### STEP 1: THE WALK: the Go text returns true, and writes nothing that was there. -/
set_option maxRecDepth 100000 in
set_option maxHeartbeats 1000000 in
theorem walk (a0 : Bool) (a1 : Bool) (a2 : Int) (w2 : (Lit.int .i64 a2).wf = true) (w : World) :
    Calls Try.prog 3 #[.bool a0, .bool a1, .int .i64 a2] w fun e w' => e = .returned (.bool true) ∧ Below w.heap.size w w' := by
  clear w2
  have C1 := fun w => zzCA a0 a1 a2 w
  have C2 := fun w => zzCA a0 a1 0 w
  have C3 := fun w => zzCA false false a2 w
  have C4 := fun w => zzCA a0 a1 (bits .or .i64 a2 32) w
  simp only [refuses_or, refuses_zero] at C2 C4
  rw [refuses_split] at C1
  generalize refuses false false a2 = u at *
  have H1 := hide C1
  have H2 := hide C2
  have H3 := hide C3
  have H4 := hide C4
  clear C1 C2 C3 C4
  cases a0 <;> cases a1 <;> cases u
  all_goals
      simp at H1 H2 H4
      go_enter Try.func3, Try.ntmps3
      go_wp2_with fail
      refine (unhide H1 _).mono ?_
      rintro e wx1 ⟨v1, rfl, hv1, hb1⟩
      obtain ⟨q1, g1⟩ := hv1
      go_wp2_with fail
      refine (unhide H2 _).mono ?_
      rintro e wx2 ⟨v2, rfl, hv2, hb2⟩
      obtain ⟨q2, g2⟩ := hv2
      go_wp2_with fail
      refine (unhide H3 _).mono ?_
      rintro e wx3 ⟨v3, rfl, hv3, hb3⟩
      obtain ⟨q3, g3⟩ := hv3
      go_wp2_with fail
      refine (unhide H4 _).mono ?_
      rintro e wx4 ⟨v4, rfl, hv4, hb4⟩
      obtain ⟨q4, g4⟩ := hv4
      go_wp2
      go_ret
      exact ⟨rfl, fin hb1 hb2 hb3 hb4⟩

/-! ### THE ROW's STEP: WRITTEN OUT: LEAVE IT -/
set_option maxRecDepth 100000 in
theorem lifted (os : Os) (started : os.Started) (H : Type) (enc : TypeId × Value → H) :
    ReturnsInHanded {} Try.checked os 3 .any (Rows.fnCheckCARefusalSplitsInTwoSpec.pre6 enc Try.prog Try.f3 Rows.fnCheckCARefusalSplitsInTwoRow.domain false) (Rows.fnCheckCARefusalSplitsInTwoSpec.post enc Try.prog Try.f3 false true false false) := by
  refine returnsInHanded_of_change (C := Try.checked) own started (by kernel_rfl) Try.func3
    (ChangeSpec.witness6 (enc := enc) (C := Try.checked) false ⟨#[], #[.bool false, .bool false, .int .i64 0], []⟩ 8 (by kernel_rfl) (by kernel_rfl) (by kernel_rfl) (by kernel_rfl)) ?_
  intro W base args ds gs before hval0 hW hcnd _
  have hval : ∀ (j : Nat) t v, Try.f3.params[j]? = some t → args[j]? = some v → Value.okWide Try.prog W .any base t v := hval0
  have hW' := hW
  obtain ⟨p, q, hA0, hV, rfl, hfz, hnd⟩ := hW
  have hA : DataW.TrodAll enc Try.prog W 0 (fun _ => true) true Try.f3.params.toList args.toList ds p := hA0
  rw [Try.params3] at hA hval
  obtain ⟨v0, vs0, d0, ds0, p0, q0, hargs, rfl, rfl, h0, r0⟩ := trodAll_cons hA
  obtain ⟨v1, vs1, d1, ds1, p1, q1, rfl, rfl, rfl, h1, r1⟩ := trodAll_cons r0
  obtain ⟨v2, vs2, d2, ds2, p2, q2, rfl, rfl, rfl, h2, r2⟩ := trodAll_cons r1
  obtain ⟨rfl, rfl, rfl⟩ := trodAll_nil r2
  obtain rfl : args = #[v0, v1, v2] := by cases args; simp_all
  obtain ⟨rfl, rfl⟩ := trodVars_none hV
  obtain ⟨a0, rfl, rfl, rfl⟩ := open_bool Try.underlying4 (hval 0 4 v0 rfl rfl) h0
  obtain ⟨a1, rfl, rfl, rfl⟩ := open_bool Try.underlying4 (hval 1 4 v1 rfl rfl) h1
  obtain ⟨a2, rfl, rfl, rfl, w2⟩ := open_int Try.underlying3 (hval 2 3 v2 rfl rfl) h2
  clear hA0 hval0
  simp only [List.append_nil] at hW'
  refine (walk a0 a1 a2 w2 W).mono fun e W' ⟨he, bel⟩ => ?_
  subst he
  exact ⟨_, rfl, _, _, _, [], _, [], hW', trodAll_mk1 (shut_bool Try.underlying4 _), (trodAll_cons_mk (shut_bool Try.underlying4 _) (trodAll_cons_mk (shut_bool Try.underlying4 _) (trodAll_cons_mk (shut_int Try.underlying3 w2) trodAll_mk0))), rfl, bel.frame _, fun h => by cases h⟩

theorem over : Rows.fnCheckCARefusalSplitsInTwoRow.holds Try.pinned (OpenSpec.ofChange Rows.fnCheckCARefusalSplitsInTwoSpec) :=
  OpenClaim.holds_of_wide 3 Try.f3 rfl rfl rfl rfl rfl rfl rfl ⟨rfl, rfl, rfl, rfl, rfl⟩ rfl rfl rfl rfl rfl (by kernel_rfl) Try.func3 (by kernel_rfl)
    (of_decide_eq_true (by kernel_rfl)) (by unfold Func.isWrapper; first | (rw [if_pos (by decide +kernel)]; kernel_rfl) | (rw [if_neg (by decide +kernel)]; exact ⟨rfl, rfl⟩))
    (fun os started H enc _ => lifted os started H enc)

/-- ████ THE STATEMENT ████ -/
theorem proved : Rows.FnCheckCARefusalSplitsInTwoSaid :=
  over
#print axioms proved
end Go.Proofs.Qxb6615030a.fnCheckCARefusalSplitsInTwo

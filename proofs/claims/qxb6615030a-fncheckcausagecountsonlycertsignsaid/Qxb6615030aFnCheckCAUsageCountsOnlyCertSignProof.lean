/-
  THE PROOF OF 'Rows.FnCheckCAUsageCountsOnlyCertSignSaid': the given shell, its hole filled; the walk's end is said by 'Below' in the place of 'Grown'.
-/
import Derived.Test.Qxb6615030aRows
import Derived.WalkKit
import Derived.ProofKit
import Derived.OpenShut
import Derived.ShutString
import Derived.ChangeOld
import Derived.Below
import Derived.Test.Qxb6615030aBits
namespace Go.Proofs.Qxb6615030a.fnCheckCAUsageCountsOnlyCertSign
open Go.ChangeShapes Go.WideShapes Go.ChangeAt Go.RowKit
open Go.ChangeMaps (open_string shut_string)
set_option linter.unusedVariables false      -- a walk need not use every 'w<i>' (that an integer argument fits its kind)

theorem own : ownKnob Try.prog.godebug = none := by kernel_rfl

theorem fin {w wa wb wc : World} (a : Below w.heap.size w wa) (b : Below wa.heap.size wa wb) (c : Below wb.heap.size wb wc) : Below w.heap.size w wc :=
  (a.trans (b.mono a.size)).trans (c.mono (Nat.le_trans a.size b.size))

/-! ### STEP 1: THE WALK: the Go text returns true, and writes nothing that was there. -/
set_option maxRecDepth 100000 in
set_option maxHeartbeats 1000000 in
/-- The usage and its mixture are both zero or both not. -/
theorem walk_same (a0 : Bool) (a1 : Bool) (a2 : Int) (a3 : Int) (bk u : Bool) (hm : (mixed a2 a3 == 0) = bk) (hk : (a2 == 0) = bk) (h3 : (bits .and .i64 a2 32 == 0) = u) (w : World) :
    Calls Try.prog 4 #[.bool a0, .bool a1, .int .i64 a2, .int .i64 a3] w fun e w' => e = .returned (.bool true) ∧ Below w.heap.size w w' := by
  have C1 := fun w => zzCA a0 a1 a2 w
  have C2 := fun w => zzCA a0 a1 (mixed a2 a3) w
  have C3 := fun w => zzCA false false a2 w
  rw [refuses_mixed a0 a1 a2 a3 (hm.trans hk.symm)] at C2
  have hk' : (a2 != 0) = !bk := by simp only [bne, hk]
  rw [refuses_alone, hk', h3] at C3
  generalize refuses a0 a1 a2 = r at *
  unfold mixed at hm C2
  have H1 := hide C1
  have H2 := hide C2
  have H3 := hide C3
  clear C1 C2 C3
  cases r <;> cases bk <;> cases u
  all_goals
      simp only [Bool.not_true, Bool.not_false, Bool.and_true, Bool.and_false] at H3 hk'
      go_enter Try.func4, Try.ntmps4
      go_wp2_with fail
      refine (unhide H1 _).mono ?_
      rintro e wx1 ⟨v1, rfl, hv1, hb1⟩
      obtain ⟨q1, g1⟩ := hv1
      go_wp2_with fail
      refine (unhide H2 _).mono ?_
      rintro e wx2 ⟨v2, rfl, hv2, hb2⟩
      obtain ⟨q2, g2⟩ := hv2
      go_wp2_with fail
      refine (unhide H3 _).mono ?_
      rintro e wx3 ⟨v3, rfl, hv3, hb3⟩
      obtain ⟨q3, g3⟩ := hv3
      go_wp2
      go_ret
      exact ⟨rfl, fin hb1 hb2 hb3⟩

set_option maxRecDepth 100000 in
set_option maxHeartbeats 1000000 in
theorem walk (a0 : Bool) (a1 : Bool) (a2 : Int) (a3 : Int) (w2 : (Lit.int .i64 a2).wf = true) (w3 : (Lit.int .i64 a3).wf = true) (w : World) :
    Calls Try.prog 4 #[.bool a0, .bool a1, .int .i64 a2, .int .i64 a3] w fun e w' => e = .returned (.bool true) ∧ Below w.heap.size w w' := by
  clear w2 w3
  cases hm : (mixed a2 a3 == 0) with
  | true =>
    cases hk : (a2 == 0) with
    | true => exact walk_same a0 a1 a2 a3 true _ hm hk rfl w
    | false =>
      unfold mixed at hm
      go_enter Try.func4, Try.ntmps4
      go_wp2
      go_ret
      exact ⟨rfl, Below.refl _ _⟩
  | false =>
    cases hk : (a2 == 0) with
    | true =>
      unfold mixed at hm
      go_enter Try.func4, Try.ntmps4
      go_wp2
      go_ret
      exact ⟨rfl, Below.refl _ _⟩
    | false => exact walk_same a0 a1 a2 a3 false _ hm hk rfl w

/-! ### THE ROW's STEP: WRITTEN OUT: LEAVE IT -/
set_option maxRecDepth 100000 in
theorem lifted (os : Os) (started : os.Started) (H : Type) (enc : TypeId × Value → H) :
    ReturnsInHanded {} Try.checked os 4 .any (Rows.fnCheckCAUsageCountsOnlyCertSignSpec.pre6 enc Try.prog Try.f4 Rows.fnCheckCAUsageCountsOnlyCertSignRow.domain false) (Rows.fnCheckCAUsageCountsOnlyCertSignSpec.post enc Try.prog Try.f4 false true false false) := by
  refine returnsInHanded_of_change (C := Try.checked) own started (by kernel_rfl) Try.func4
    (ChangeSpec.witness6 (enc := enc) (C := Try.checked) false ⟨#[], #[.bool false, .bool false, .int .i64 0, .int .i64 0], []⟩ 8 (by kernel_rfl) (by kernel_rfl) (by kernel_rfl) (by kernel_rfl)) ?_
  intro W base args ds gs before hval0 hW hcnd _
  have hval : ∀ (j : Nat) t v, Try.f4.params[j]? = some t → args[j]? = some v → Value.okWide Try.prog W .any base t v := hval0
  have hW' := hW
  obtain ⟨p, q, hA0, hV, rfl, hfz, hnd⟩ := hW
  have hA : DataW.TrodAll enc Try.prog W 0 (fun _ => true) true Try.f4.params.toList args.toList ds p := hA0
  rw [Try.params4] at hA hval
  obtain ⟨v0, vs0, d0, ds0, p0, q0, hargs, rfl, rfl, h0, r0⟩ := trodAll_cons hA
  obtain ⟨v1, vs1, d1, ds1, p1, q1, rfl, rfl, rfl, h1, r1⟩ := trodAll_cons r0
  obtain ⟨v2, vs2, d2, ds2, p2, q2, rfl, rfl, rfl, h2, r2⟩ := trodAll_cons r1
  obtain ⟨v3, vs3, d3, ds3, p3, q3, rfl, rfl, rfl, h3, r3⟩ := trodAll_cons r2
  obtain ⟨rfl, rfl, rfl⟩ := trodAll_nil r3
  obtain rfl : args = #[v0, v1, v2, v3] := by cases args; simp_all
  obtain ⟨rfl, rfl⟩ := trodVars_none hV
  obtain ⟨a0, rfl, rfl, rfl⟩ := open_bool Try.underlying4 (hval 0 4 v0 rfl rfl) h0
  obtain ⟨a1, rfl, rfl, rfl⟩ := open_bool Try.underlying4 (hval 1 4 v1 rfl rfl) h1
  obtain ⟨a2, rfl, rfl, rfl, w2⟩ := open_int Try.underlying3 (hval 2 3 v2 rfl rfl) h2
  obtain ⟨a3, rfl, rfl, rfl, w3⟩ := open_int Try.underlying3 (hval 3 3 v3 rfl rfl) h3
  clear hA0 hval0
  simp only [List.append_nil] at hW'
  refine (walk a0 a1 a2 a3 w2 w3 W).mono fun e W' ⟨he, bel⟩ => ?_
  subst he
  exact ⟨_, rfl, _, _, _, [], _, [], hW', trodAll_mk1 (shut_bool Try.underlying4 _), (trodAll_cons_mk (shut_bool Try.underlying4 _) (trodAll_cons_mk (shut_bool Try.underlying4 _) (trodAll_cons_mk (shut_int Try.underlying3 w2) (trodAll_cons_mk (shut_int Try.underlying3 w3) trodAll_mk0)))), rfl, bel.frame _, fun h => by cases h⟩

theorem over : Rows.fnCheckCAUsageCountsOnlyCertSignRow.holds Try.pinned (OpenSpec.ofChange Rows.fnCheckCAUsageCountsOnlyCertSignSpec) :=
  OpenClaim.holds_of_wide 4 Try.f4 rfl rfl rfl rfl rfl rfl rfl ⟨rfl, rfl, rfl, rfl, rfl⟩ rfl rfl rfl rfl rfl (by kernel_rfl) Try.func4 (by kernel_rfl)
    (of_decide_eq_true (by kernel_rfl)) (by unfold Func.isWrapper; first | (rw [if_pos (by decide +kernel)]; kernel_rfl) | (rw [if_neg (by decide +kernel)]; exact ⟨rfl, rfl⟩))
    (fun os started H enc _ => lifted os started H enc)

/-- ████ THE STATEMENT ████ -/
theorem proved : Rows.FnCheckCAUsageCountsOnlyCertSignSaid :=
  over
#print axioms proved
end Go.Proofs.Qxb6615030a.fnCheckCAUsageCountsOnlyCertSign

import Derived.Test.Qxb6615030aRows
import Derived.WalkKit
import Derived.WalkSpells
import Derived.WalkLawsBesides
import Derived.StillTactics
import Derived.Outline
namespace Go.Proofs.Qxb6615030a
open Go.RowKit

theorem hide {p : Prop} (h : p) : Hid p := h
theorem unhide {p : Prop} (h : Hid p) : p := h

theorem errNew (s : ByteArray) (w : World) :
    Calls Try.prog 15 #[.string s] w fun e w' => (∃ p, e = .returned (.iface 71 p)) ∧ Below w.heap.size w w' := by
  go_enter Try.func15, Try.ntmps15
  go_wp2
  go_ret
  exact ⟨⟨_, rfl⟩, (Below.refl _ _).alloc (Nat.le_refl _) _⟩

/-! ### The certificate: 77 cells, three of them set -/
def certCells (bv ca : Bool) (ku : Int) : Array Value :=
  #[.slice none 0 0, .slice none 0 0, .slice none 0 0, .slice none 0 0, .slice none 0 0, .slice none 0 0, .slice none 0 0, .int .i64 0,
    .int .i64 0, .nilIface, .int .i64 0, .pointer none, .slice none 0 0, .slice none 0 0, .slice none 0 0, .slice none 0 0,
    .slice none 0 0, .slice none 0 0, .slice none 0 0, .string ByteArray.empty, .string ByteArray.empty, .slice none 0 0, .slice none 0 0, .slice none 0 0,
    .slice none 0 0, .slice none 0 0, .slice none 0 0, .slice none 0 0, .slice none 0 0, .slice none 0 0, .string ByteArray.empty, .string ByteArray.empty,
    .slice none 0 0, .slice none 0 0, .int .u64 0, .int .i64 0, .pointer none, .int .u64 0, .int .i64 0, .pointer none,
    .int .i64 ku, .slice none 0 0, .slice none 0 0, .slice none 0 0, .slice none 0 0, .slice none 0 0, .bool bv, .bool ca,
    .int .i64 0, .bool false, .slice none 0 0, .slice none 0 0, .slice none 0 0, .slice none 0 0, .slice none 0 0, .slice none 0 0,
    .slice none 0 0, .slice none 0 0, .bool false, .slice none 0 0, .slice none 0 0, .slice none 0 0, .slice none 0 0, .slice none 0 0,
    .slice none 0 0, .slice none 0 0, .slice none 0 0, .slice none 0 0, .slice none 0 0, .slice none 0 0, .int .i64 0, .bool false,
    .int .i64 0, .bool false, .int .i64 0, .bool false, .slice none 0 0]

theorem run_build_cert (bv ca : Bool) (ku : Int) (w : World) : (Instr.build 59 #[(22, .bool bv), (23, .bool ca), (16, .int .i64 ku)]).run Try.prog w = .ok (.agg (certCells bv ca ku)) w := by kernel_rfl
theorem run_box_cert (bv ca : Bool) (ku : Int) (w : World) : (Instr.box 59 (.agg (certCells bv ca ku))).run Try.prog w = .ok (.pointer (some ⟨w.heap.size, 0, none⟩)) (w.alloc (.cells (certCells bv ca ku) 59)) := by kernel_rfl

theorem wpList_build_cert {w : World} {ops : Array Oper} {rest : List Oper} {o : Oper} {a : Act} {Q : Exit → Act → World → Prop} (hg : o.guard = none) (x y z : Operand)
    (hop : o.op = Op.build 59 #[(22, x), (23, y), (16, z)]) (bv ca : Bool) (ku : Int) (hx : a.eval x = .bool bv) (hy : a.eval y = .bool ca) (hz : a.eval z = .int .i64 ku)
    (h : wpList Try.prog ops Q rest (a.put o.dst (.agg (certCells bv ca ku))) w) : wpList Try.prog ops Q (o :: rest) a w := by
  refine wpList_plain hg fun K hK => ?_
  have hrun := run_build_cert bv ca ku w
  unfold Oper.wp
  simp [execOp, hop, hx, hy, hz, hrun, Result.andThen]
  exact hK _ _ h

theorem wpList_box_cert {w : World} {ops : Array Oper} {rest : List Oper} {o : Oper} {a : Act} {Q : Exit → Act → World → Prop} (hg : o.guard = none) (x : Operand)
    (hop : o.op = Op.box 59 x) (bv ca : Bool) (ku : Int) (hx : a.eval x = .agg (certCells bv ca ku))
    (h : wpList Try.prog ops Q rest (a.put o.dst (.pointer (some ⟨w.heap.size, 0, none⟩))) (w.alloc (.cells (certCells bv ca ku) 59))) : wpList Try.prog ops Q (o :: rest) a w := by
  refine wpList_plain hg fun K hK => ?_
  have hrun := run_box_cert bv ca ku w
  unfold Oper.wp
  simp [execOp, hop, hx, hrun, Result.andThen]
  exact hK _ _ h

/-- Does CheckCA refuse? -/
def refuses (bv ca : Bool) (ku : Int) : Bool := (bv && !ca) || (ku != 0 && bits .and .i64 ku 32 == 0)

theorem cert_cells (w : World) (bv ca : Bool) (ku : Int) :
    (w.alloc (.cells (certCells bv ca ku) 59)).cell? ⟨w.heap.size, 46, none⟩ = some (.bool bv) ∧ (w.alloc (.cells (certCells bv ca ku) 59)).cell? ⟨w.heap.size, 47, none⟩ = some (.bool ca) ∧
    (w.alloc (.cells (certCells bv ca ku) 59)).cell? ⟨w.heap.size, 40, none⟩ = some (.int .i64 ku) := by
  have h : (w.alloc (.cells (certCells bv ca ku) 59)).heap[w.heap.size]? = some (.cells (certCells bv ca ku) 59) := by
    show (w.heap.push _)[w.heap.size]? = _
    simp
  simp only [World.cell?, h]
  exact ⟨rfl, rfl, rfl⟩

theorem neq_nil_err (p : Value) (w : World) : (binOp .neq 23 (.iface 71 p) .nilIface).run Try.prog w = .ok (.bool true) w := by kernel_rfl
theorem neq_nil_nil (w : World) : (binOp .neq 23 .nilIface .nilIface).run Try.prog w = .ok (.bool false) w := by kernel_rfl

/-- What CheckCA hands back: its test against the literal nil. -/
def Err (v : Value) (b : Bool) : Prop := (∀ w : World, (binOp .neq 23 v .nilIface).run Try.prog w = .ok (.bool b) w) ∧ ∀ (x : Operand) (c : Value) (w : World), (eqGuard .neq 23 x (.const c) v .nilIface).run Try.prog w = .ok () w
theorem err_yes (p : Value) : Err (.iface 71 p) true := ⟨neq_nil_err p, fun _ _ _ => rfl⟩
theorem err_no : Err .nilIface false := ⟨neq_nil_nil, fun x _ _ => by simp [eqGuard]⟩

set_option maxRecDepth 100000 in
set_option maxHeartbeats 400000 in
theorem checkCA (w : World) (B : Nat) (bv ca : Bool) (ku : Int) (c46 : w.cell? ⟨B, 46, none⟩ = some (.bool bv)) (c47 : w.cell? ⟨B, 47, none⟩ = some (.bool ca)) (c40 : w.cell? ⟨B, 40, none⟩ = some (.int .i64 ku)) :
    Calls Try.prog 13 #[.pointer (some ⟨B, 0, none⟩)] w fun e w' => ∃ v, e = .returned v ∧ Err v (refuses bv ca ku) ∧ Below w.heap.size w w' := by
  cases h1 : (bv && !ca) with
  | true =>
    have hr : refuses bv ca ku = true := by simp [refuses, h1]
    rw [hr]
    obtain ⟨rfl, rfl⟩ : bv = true ∧ ca = false := by simpa using h1
    clear h1 hr
    go_enter Try.func13, Try.ntmps13
    go_wp2_with (go_at_call 15; refine (errNew _ _).mono ?_; rintro e w' ⟨⟨p, rfl⟩, hb⟩)
    go_ret
    exact ⟨_, rfl, err_yes _, hb⟩
  | false =>
    have hcase : (bv = false) ∨ (bv = true ∧ ca = true) := by cases bv <;> cases ca <;> simp_all
    cases h2 : (ku != 0) with
    | false =>
      have hr : refuses bv ca ku = false := by simp [refuses, h1, h2]
      rw [hr]
      clear hr h1
      rcases hcase with rfl | ⟨rfl, rfl⟩
      · go_enter Try.func13, Try.ntmps13
        go_wp2
        go_ret
        exact ⟨_, rfl, err_no, Below.refl _ _⟩
      · go_enter Try.func13, Try.ntmps13
        go_wp2
        go_ret
        exact ⟨_, rfl, err_no, Below.refl _ _⟩
    | true =>
      cases h3 : (bits .and .i64 ku 32 == 0) with
      | false =>
        have hr : refuses bv ca ku = false := by simp [refuses, h1, h3]
        rw [hr]
        clear hr h1
        rcases hcase with rfl | ⟨rfl, rfl⟩
        · go_enter Try.func13, Try.ntmps13
          go_wp2
          go_ret
          exact ⟨_, rfl, err_no, Below.refl _ _⟩
        · go_enter Try.func13, Try.ntmps13
          go_wp2
          go_ret
          exact ⟨_, rfl, err_no, Below.refl _ _⟩
      | true =>
        have hr : refuses bv ca ku = true := by simp only [refuses, h2, h3]; simp
        rw [hr]
        clear hr h1
        rcases hcase with rfl | ⟨rfl, rfl⟩
        · go_enter Try.func13, Try.ntmps13
          go_wp2_with (go_at_call 15; refine (errNew _ _).mono ?_; rintro e w' ⟨⟨p, rfl⟩, hb⟩)
          go_ret
          exact ⟨_, rfl, err_yes _, hb⟩
        · go_enter Try.func13, Try.ntmps13
          go_wp2_with (go_at_call 15; refine (errNew _ _).mono ?_; rintro e w' ⟨⟨p, rfl⟩, hb⟩)
          go_ret
          exact ⟨_, rfl, err_yes _, hb⟩
end Go.Proofs.Qxb6615030a

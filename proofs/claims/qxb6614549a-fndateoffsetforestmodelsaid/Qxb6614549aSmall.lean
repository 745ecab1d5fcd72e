import Derived.Test.Qxb6614549aRows
import Derived.WalkKit
import Derived.WalkSpells
import Derived.WalkLawsBesides
import Derived.StillTactics
import Derived.Deep.QuietTactic
import Derived.BigQuiet
import Derived.Deep.OwnRows
namespace Go.Proofs.Qxb6614549a
open Go.RowKit

theorem ret_int {k : IntKind} {a b : Int} (h : a = b) : Ending.returned (.int k a) = .returned (.int k b) := by rw [h]

theorem correctDate_any (a b : Int) (h0 : 0 ≤ b) (h : b < 18446744073709551615) (w : World) :
    Calls Try.prog 23 #[.int .u64 a, .int .u64 b] w fun e w' => e = .returned (.int .u64 (max a (b + 1))) ∧ w' = w := by
  go_enter Try.func23, Try.ntmps23
  go_wp2
  all_goals
    go_ret
    exact ⟨ret_int (by omega), rfl⟩

/-- dateOffset reads two cells. -/
theorem dateOffset_any (G C T n i : Nat) (c t : Int) (tc cc : Nat) (w : World) (hi : i < n) (h6 : w.cell? ⟨G, 6, none⟩ = some (.slice (some ⟨C, 0, none⟩) n cc)) (h2 : w.cell? ⟨G, 2, none⟩ = some (.slice (some ⟨T, 0, none⟩) n tc))
    (hc : w.cell? ⟨C, i, none⟩ = some (.int .u64 c)) (ht : w.cell? ⟨T, i, none⟩ = some (.int .u64 t)) (h0 : 0 ≤ t) (hct : t ≤ c) (hcb : c ≤ 18446744073709551615) :
    Calls Try.prog 20 #[.pointer (some ⟨G, 0, none⟩), .int .i64 i] w fun e w' => e = .returned (.int .u64 (c - t)) ∧ ∃ k, w' = w.drewN k := by
  have hi' : (i : Int) < (n : Int) := by omega
  go_enter Try.func20, Try.ntmps20
  go_wp2
  go_quiet (fail)
  go_wp2
  go_ret
  exact ⟨rfl, _, rfl⟩

theorem zzDateOffset_any (G C T n i : Nat) (c t : Int) (tc cc : Nat) (w : World) (hi : i < n) (h6 : w.cell? ⟨G, 6, none⟩ = some (.slice (some ⟨C, 0, none⟩) n cc)) (h2 : w.cell? ⟨G, 2, none⟩ = some (.slice (some ⟨T, 0, none⟩) n tc))
    (hc : w.cell? ⟨C, i, none⟩ = some (.int .u64 c)) (ht : w.cell? ⟨T, i, none⟩ = some (.int .u64 t)) (h0 : 0 ≤ t) (hct : t ≤ c) (hcb : c ≤ 18446744073709551615) :
    Calls Try.prog 12 #[.pointer (some ⟨G, 0, none⟩), .int .i64 i] w fun e w' => e = .returned (.int .u64 (c - t)) ∧ ∃ k, w' = w.drewN k := by
  go_enter Try.func12, Try.ntmps12
  go_wp2_with (go_at_call 20; refine (dateOffset_any G C T n i c t tc cc _ hi h6 h2 hc ht h0 hct hcb).mono ?_; rintro e w' ⟨rfl, k, rfl⟩)
  go_ret
  exact ⟨rfl, _, rfl⟩

/-- parentsOf: no parent. -/
theorem parentsOf_none (G S i s : Nat) (n sc m pc : Nat) (pa : Option Addr) (w : World) (hi : i + 1 < n) (hn : n ≤ 65537) (hsm : s ≤ m) (hmc : m ≤ pc)
    (h3 : w.cell? ⟨G, 3, none⟩ = some (.slice pa m pc)) (h4 : w.cell? ⟨G, 4, none⟩ = some (.slice (some ⟨S, 0, none⟩) n sc))
    (hs : w.cell? ⟨S, i, none⟩ = some (.int .i64 s)) (hs1 : w.cell? ⟨S, i + 1, none⟩ = some (.int .i64 s)) :
    Calls Try.prog 22 #[.pointer (some ⟨G, 0, none⟩), .int .i64 i] w fun e w' => (∃ a c, e = .returned (.slice a 0 c)) ∧ ∃ k, w' = w.drewN k := by
  have hi' : (i : Int) < (n : Int) := by omega
  have hi'' : (i : Int) + 1 < (n : Int) := by omega
  cases pa with
  | none =>
    go_enter Try.func22, Try.ntmps22
    go_wp2
    go_quiet (fail)
    go_wp2
    all_goals
      go_ret
      exact ⟨⟨_, _, rfl⟩, _, rfl⟩
  | some p =>
    go_enter Try.func22, Try.ntmps22
    go_wp2
    go_quiet (fail)
    go_wp2
    all_goals
      go_ret
      exact ⟨⟨_, _, rfl⟩, _, rfl⟩

/-- parentsOf: one parent. -/
theorem parentsOf_one (G S B i s : Nat) (n sc m pc : Nat) (w : World) (hi : i + 1 < n) (hn : n ≤ 65537) (hsm : s + 1 ≤ m) (hmc : m ≤ pc)
    (h3 : w.cell? ⟨G, 3, none⟩ = some (.slice (some ⟨B, 0, none⟩) m pc)) (h4 : w.cell? ⟨G, 4, none⟩ = some (.slice (some ⟨S, 0, none⟩) n sc))
    (hs : w.cell? ⟨S, i, none⟩ = some (.int .i64 s)) (hs1 : w.cell? ⟨S, i + 1, none⟩ = some (.int .i64 ((s : Int) + 1))) :
    Calls Try.prog 22 #[.pointer (some ⟨G, 0, none⟩), .int .i64 i] w fun e w' => e = .returned (.slice (some ⟨B, s, none⟩) 1 (pc - s)) ∧ ∃ k, w' = w.drewN k := by
  have hi' : (i : Int) < (n : Int) := by omega
  have hi'' : (i : Int) + 1 < (n : Int) := by omega
  have hps : ¬ pc = s := by omega
  have e1 : s + 1 - s = 1 := by omega
  go_enter Try.func22, Try.ntmps22
  go_wp2
  go_quiet (fail)
  go_wp2
  go_ret
  exact ⟨rfl, _, rfl⟩

/-- ZZnewGraph: a new block of nine cells. -/
theorem zzNewGraph_any (a b c : Value) (w : World) (ha : ∃ x y z, a = .slice x y z) (hb : ∃ x y z, b = .slice x y z) (hc : ∃ x y z, c = .slice x y z) :
    Calls Try.prog 10 #[a, b, c] w fun e w' => e = .returned (.pointer (some ⟨w.heap.size, 0, none⟩)) ∧
      w' = w.alloc (.cells #[.slice none 0 0, .slice none 0 0, a, b, c, .slice none 0 0, .slice none 0 0, .int .i64 0, .int .i64 0] 49) := by
  obtain ⟨_, _, _, rfl⟩ := ha
  obtain ⟨_, _, _, rfl⟩ := hb
  obtain ⟨_, _, _, rfl⟩ := hc
  go_enter Try.func10, Try.ntmps10
  go_wp2
  go_ret
  exact ⟨rfl, rfl⟩
end Go.Proofs.Qxb6614549a

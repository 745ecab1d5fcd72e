import Derived.Test.Qxb6614549aCore
import Derived.Deep.RegionWith
import Derived.Deep.RegionHeld3
import Derived.Deep.LoopGhost
import Derived.Outline
namespace Go.Proofs.Qxb6614549a
open Go.RowKit

theorem inBlock_normal {id : Nat} {Q : Exit → Act → World → Prop} {a : Act} {w : World} (h : Q .normal a w) : Exit.inBlock id Q .normal a w := h
theorem then_rounds {P : Program} {c : Code} {Q Q' : Exit → Act → World → Prop} {n : Nat} {a : Act} {w : World} (h : c.wp P (Exit.then (Code.rounds P c Q n) Q) a w) : Exit.then (Code.rounds P c Q (n + 1)) Q' .normal a w := h

theorem hide {p : Prop} (h : p) : Hid p := h
theorem unhide {p : Prop} (h : Hid p) : p := h

/-- What 'number' asks of the graph's columns. -/
structure Cols (w : World) (G n : Nat) (T : Nat → Int) (P : Nat → Option Nat) (C : Nat → Int) (tb sb m pc : Nat) (pa : Option Addr) (pb : Nat) (s : Nat → Nat) : Prop where
  n1 : n ≤ 65536
  mc : m ≤ pc
  tl : tb < G
  sl : sb < G
  pl : pb < G
  tcell : ∀ j, j < n → w.cell? ⟨tb, j, none⟩ = some (.int .u64 (T j))
  scell : ∀ j, j ≤ n → w.cell? ⟨sb, j, none⟩ = some (.int .i64 (s j))
  smax : ∀ j, j ≤ n → s j ≤ m
  pnone : ∀ k, k < n → P k = none → s (k + 1) = s k
  psome : ∀ k p, k < n → P k = some p → p < k ∧ s (k + 1) = s k + 1 ∧ pa = some ⟨pb, 0, none⟩ ∧ w.cell? ⟨pb, s k, none⟩ = some (.int .u32 p)
  cnone : ∀ k, k < n → P k = none → C k = max (T k) (0 + 1)
  csome : ∀ k p, k < n → P k = some p → C k = max (T k) (C p + 1)
  cmax : ∀ k, k < n → C k ≤ 18446744073709551615

theorem cpos {w : World} {G n : Nat} {T : Nat → Int} {P : Nat → Option Nat} {C : Nat → Int} {tb sb m pc : Nat} {pa : Option Addr} {pb : Nat} {s : Nat → Nat} (hc : Cols w G n T P C tb sb m pc pa pb s) : ∀ k, k < n → 1 ≤ C k := by
  intro k
  induction k using Nat.strongRecOn with
  | ind k ih =>
    intro hk
    cases hP : P k with
    | none => rw [hc.cnone k hk hP]; omega
    | some p =>
      have h1 := (hc.psome k p hk hP).1
      have h2 := ih p h1 (by omega)
      rw [hc.csome k p hk hP]
      omega

theorem mid {w wr w1 : World} {G n k : Nat} {tv pv sv v v' : Value} {ge co : Nat → Int} {c : Array Value} (hown : wr.ownsRow (w.heap.size + 2) 33 1 v 0 []) (hcore : Core w wr G n tv pv sv ge co)
    (hown' : w1.ownsRow (w.heap.size + 2) 33 1 v' 1 [.int .u32 k]) (hgrow : (wr.alloc (.cells c 33)).grownBy w1 v.ownBlock) :
    ∃ g cap, v' = .slice (some ⟨g, 0, none⟩) 1 cap ∧ w.heap.size + 2 ≤ g ∧ 1 ≤ cap ∧ cap ≤ 9223372036854775807 ∧ w1.cell? ⟨g, 0, none⟩ = some (.int .u32 k) ∧ Core w w1 G n tv pv sv ge co ∧
      w1.ownsRow (w.heap.size + 2) 33 1 (.slice (some ⟨g, 0, none⟩) 0 cap) 0 [] := by
  have hs := hcore.size
  have hb : Below (w.heap.size + 2) wr w1 := by
    refine ((Below.refl _ _).alloc hs _).grown hgrow (by rw [Deep.nblk_alloc]; omega) ?_
    intro g hg
    rcases hown.2 with ⟨rfl, _⟩ | ⟨g', cap, cur, rfl, hb, _⟩
    · simp [Value.ownBlock] at hg
    · simp [Value.ownBlock] at hg; omega
  rcases hown'.2 with ⟨_, h⟩ | ⟨g, cap, cur, rfl, hbg, hh, hcap, hcm, hcs, htk⟩
  · omega
  · unfold maxLen at hcm
    refine ⟨g, cap, rfl, hbg, hcap, hcm, ?_, hcore.later hb, by simp, Or.inr ⟨g, cap, cur, rfl, hbg, hh, by omega, by unfold maxLen; omega, hcs, by simp⟩⟩
    have := hown'.cellAt 0 (by omega)
    simpa using this

theorem ownsRow_setCell_low {w : World} {base : Nat} {e : TypeId} {size : Nat} {v : Value} {n : Nat} {xs : List Value} (h : w.ownsRow base e size v n xs) {b o : Nat} (ha : b < base) (u : Value) : (w.setCell ⟨b, o, none⟩ u).ownsRow base e size v n xs :=
  ownsRow_setCell_below h (by exact ha) u

theorem step_core {w w1 : World} {G n k : Nat} {tv pv sv v : Value} {ge C : Nat → Int} (H1 : Core w w1 G n tv pv sv ge (fun j => if j < k then C j else 0)) (hown : w1.ownsRow (w.heap.size + 2) 33 1 v 0 [])
    (hg1 : ∀ j, j < k → 1 ≤ ge j ∧ ge j ≤ 1073741823) (hg0 : ∀ j, k ≤ j → ge j = 0) (nd : Nat) (x y : Int) (hx : 1 ≤ x ∧ x ≤ 1073741823) (hy : y = C k) :
    ((((w1.drewN nd).setCell ⟨w.heap.size, k, none⟩ (.int .u32 x)).setCell ⟨w.heap.size + 1, k, none⟩ (.int .u64 y)).drew).ownsRow (w.heap.size + 2) 33 1 v 0 [] ∧
    ∃ ge', Core w ((((w1.drewN nd).setCell ⟨w.heap.size, k, none⟩ (.int .u32 x)).setCell ⟨w.heap.size + 1, k, none⟩ (.int .u64 y)).drew) G n tv pv sv ge' (fun j => if j < k + 1 then C j else 0) ∧
      (∀ j, j < k + 1 → 1 ≤ ge' j ∧ ge' j ≤ 1073741823) ∧ ∀ j, k + 1 ≤ j → ge' j = 0 := by
  have a1 : Core w (w1.drewN nd) G n tv pv sv ge (fun j => if j < k then C j else 0) := H1.later (below_drewN (Below.refl _ _) nd)
  have a2 := (a1.setGen k x).setCor k y
  have a3 := a2.later (Below.refl (w.heap.size + 2) _).drew
  refine ⟨?_, fun j => if j = k then x else ge j, a3.congr (fun _ _ => rfl) ?_, ?_, ?_⟩
  · have o1 : (w1.drewN nd).ownsRow (w.heap.size + 2) 33 1 v 0 [] := hown
    exact (ownsRow_setCell_low (ownsRow_setCell_low o1 (by omega) _) (by omega) _).drew
  · intro j _
    by_cases e : j = k
    · subst e; simp [hy]
    · have : (j < k) = (j < k + 1) := by rw [eq_iff_iff]; omega
      simp [e, this]
  · intro j hj
    by_cases e : j = k
    · simp [e, hx]
    · simpa [e] using hg1 j (by omega)
  · intro j hj
    have e : ¬ j = k := by omega
    simpa [e] using hg0 j (by omega)

set_option maxRecDepth 100000 in
set_option maxHeartbeats 1000000 in
theorem number_any (w : World) (G n : Nat) (T : Nat → Int) (P : Nat → Option Nat) (C : Nat → Int) (ta : Option Addr) (tb tc sb sc m pc : Nat) (pa : Option Addr) (pb : Nat) (s : Nat → Nat) (g0 c0 : Value) (hta : 0 < n → ta = some ⟨tb, 0, none⟩)
    (hG : w.heap[G]? = some (graphObj (.slice ta n tc) (.slice pa m pc) (.slice (some ⟨sb, 0, none⟩) (n + 1) sc) g0 c0)) 
    (hc : Cols w G n T P C tb sb m pc pa pb s) :
    Calls Try.prog 19 #[.pointer (some ⟨G, 0, none⟩)] w fun e w' => e = .returned (.tuple #[]) ∧ ∃ ge, Core w w' G n (.slice ta n tc) (.slice pa m pc) (.slice (some ⟨sb, 0, none⟩) (n + 1) sc) ge C := by
  have hn := hc.n1
  have hmk1 := run_make_row' (P := Try.prog) 31 33 (.int .u32 0) 4 Try.underlying31 info33 rfl .i64 .i64 n (by omega) (by omega)
  have hmk2 := run_make_row' (P := Try.prog) 27 30 (.int .u64 0) 8 Try.underlying27 info30 rfl .i64 .i64 n (by omega) (by omega)
  obtain ⟨i0, hi, hz0, hz1, hz2⟩ := info_parts info33
  obtain ⟨c2, c3, c4, c5, c6⟩ := graph_cells hG
  have f5 := graph_free hG 5
  have f6 := graph_free hG 6
  have hst := Core.start w G n _ _ _ _ _ hG
  have hGl : G < w.heap.size := lt_of_block hG
  have HST := hide hst
  have HC := hide hc
  have HTA := hide hta
  clear hst hc hG hta
  go_enter Try.func19, Try.ntmps19
  go_wp2
  clear c2 c3 c4 c5 c6 f5 f6 hmk1 hmk2
  go_loopw [3, 27] (fun v i wr => ∃ k : Nat, k ≤ n ∧ i = .int .i64 k ∧ wr.ownsRow (w.heap.size + 2) 33 1 v 0 [] ∧ ∃ ge, Core w wr G n (.slice ta n tc) (.slice pa m pc) (.slice (some ⟨sb, 0, none⟩) (n + 1) sc) ge (fun j => if j < k then C j else 0) ∧
      (∀ j, j < k → 1 ≤ ge j ∧ ge j ≤ 1073741823) ∧ ∀ j, k ≤ j → ge j = 0)
    (fun _ i _ => n - (intOf i).toNat)
  case atStart => exact ⟨0, Nat.zero_le _, rfl, World.ownsRow_nil _ _ _ _, fun _ => 0, (unhide HST).congr (fun _ _ => rfl) (fun j _ => by simp), fun j h => by omega, fun _ _ => rfl⟩
  case round =>
    obtain ⟨k, hk, rfl, hown, ge, hcore, hge1, hge0⟩ := hrel
    by_cases hlt : k < n
    · obtain rfl := unhide HTA (by omega)
      clear HTA
      have HCO := hide hcore
      have HG1 := hide hge1
      have HG0 := hide hge0
      have hsz := hcore.size
      clear hcore hge1 hge0 HST
      go_wp2_with (at_builtin; refine wpList_append_own _ rfl _ _ 31 rfl (w.heap.size + 2) 33 i0 (.int .u32 0) 1 4 Try.underlying31 hi hz0 hz1 hz2 rfl (by decide) _ _ _ rfl (hown.alloc _) ⟨wr.heap.size, 0, none⟩ 1 1 [.int .u32 k] rfl rfl ?c1 ?c2 ?c3 ?c4 ?c5 ?_)
      case c1 =>
        intro j u hj
        match j, hj with
        | 0, hj => simp at hj; subst hj; simp [Addr.add]
      case c2 => intro u hu; simp at hu; subst hu; rfl
      case c3 => unfold maxLen; omega
      case c4 => omega
      case c5 => simp; omega
      intro v' w1 hown' hgrow _
      obtain ⟨g, cap, hv', hg, hcap, hcapm, cst, hcore1, hown1⟩ := mid hown (unhide HCO) hown' hgrow
      rw [hv']
      clear hown' hgrow hown hv'
      obtain ⟨c2, c3, c4, c5, c6⟩ := graph_cells hcore1.gblk
      have cg := hcore1.gens.cell hlt
      have fg := hcore1.gens.frozen k
      have cc := hcore1.cors.cell hlt
      have fc := hcore1.cors.frozen k
      rw [unhide HG0 k (Nat.le_refl _)] at cg
      simp only [Nat.lt_irrefl, if_false] at cc
      have H1 := hide hcore1
      have H2 := hide hown1
      clear hcore1 hown1
      have hkn : (k : Int) < (n : Int) := by omega
      go_wp2
      refine wp_loop_rounds 2 ?_
      rw [rounds_succ]
      cases hP : P k with
      | none =>
        have hs0 := (unhide HC).scell k (by omega)
        have hs1 := (unhide HC).scell (k + 1) (by omega)
        rw [(unhide HC).pnone k hlt hP] at hs1
        have hsm := (unhide HC).smax k (by omega)
        have hmc := (unhide HC).mc
        have hb1 := (unhide H1).below
        have q0 := (hb1.cell (p := ⟨sb, k, none⟩) (unhide HC).sl).trans hs0
        have q1 := (hb1.cell (p := ⟨sb, k + 1, none⟩) (unhide HC).sl).trans hs1
        have ct := (hb1.cell (p := ⟨tb, k, none⟩) (unhide HC).tl).trans ((unhide HC).tcell k hlt)
        have htl := (unhide HC).tl
        clear hs0 hs1 hb1
        go_wp2_with fail
        refine (parentsOf_none G sb k (s k) (n + 1) sc m pc pa _ (by omega) (by omega) hsm hmc c3 c4 q0 q1).mono ?_
        rintro e w2 ⟨⟨ar, cr, rfl⟩, nd, rfl⟩
        go_wp2
        refine wp_loop_rounds 1 ?_
        rw [rounds_succ]
        go_wp2
        go_region_held3 (fun w' => w'.cell? ⟨G, 6, none⟩ = some (.slice (some ⟨w.heap.size + 1, 0, none⟩) n n) ∧ w'.cell? ⟨G, 2, none⟩ = some (.slice (some ⟨tb, 0, none⟩) n tc) ∧ w'.cell? ⟨tb, k, none⟩ = some (.int .u64 (T k))) (simp [go_sem, *])
          (first | (go_at_call 23; refine (correctDate_any _ _ (by omega) (by omega) _).mono ?_; rintro e w' ⟨rfl, rfl⟩))
        refine inBlock_normal (then_rounds ?_)
        go_wp2
        go_roundw
        case measure => simp [intOf]; omega
        case rel =>
          obtain ⟨r1, ge', r2, r3, r4⟩ := step_core (unhide H1) (unhide H2) (unhide HG1) (unhide HG0) nd 1 (max (T k) 1) ⟨by omega, by omega⟩ ((unhide HC).cnone k hlt hP).symm
          exact ⟨k + 1, by omega, by go_num, r1, ge', r2, r3, r4⟩
      | some p =>
        obtain ⟨hpk, hs2, hpa, hpc⟩ := (unhide HC).psome k p hlt hP
        have hs0 := (unhide HC).scell k (by omega)
        have hs1 := (unhide HC).scell (k + 1) (by omega)
        rw [hs2, show ((s k + 1 : Nat) : Int) = (s k : Int) + 1 by omega] at hs1
        have hsm := (unhide HC).smax (k + 1) (by omega)
        rw [hs2] at hsm
        have hmc := (unhide HC).mc
        have hb1 := (unhide H1).below
        have q0 := (hb1.cell (p := ⟨sb, k, none⟩) (unhide HC).sl).trans hs0
        have q1 := (hb1.cell (p := ⟨sb, k + 1, none⟩) (unhide HC).sl).trans hs1
        have qp := (hb1.cell (p := ⟨pb, s k, none⟩) (unhide HC).pl).trans hpc
        have ct := (hb1.cell (p := ⟨tb, k, none⟩) (unhide HC).tl).trans ((unhide HC).tcell k hlt)
        have htl := (unhide HC).tl
        have hpl := (unhide HC).pl
        have gp := (unhide H1).gens.cell (i := p) (by omega)
        have cp := (unhide H1).cors.cell (i := p) (by omega)
        simp only [hpk, if_true] at cp
        obtain ⟨gp1, gp2⟩ := (unhide HG1) p hpk
        have HCK := hide ((unhide HC).csome k p hlt hP)
        have cp1 : 1 ≤ C p := cpos (unhide HC) p (by omega)
        have cp2 : C p ≤ 18446744073709551614 := by have h1 := (unhide HC).cmax k hlt; have h2 := unhide HCK; omega
        have hpn : (p : Int) < (n : Int) := by omega
        subst hpa
        have HP := hide hP
        have HS2 := hide hs2
        clear hs0 hs1 hb1 hpc hP hs2
        go_wp2_with fail
        refine (parentsOf_one G sb pb k (s k) (n + 1) sc m pc _ (by omega) (by omega) hsm hmc c3 c4 q0 q1).mono ?_
        rintro e w2 ⟨rfl, nd, rfl⟩
        go_wp2
        refine wp_loop_rounds 2 ?_
        rw [rounds_succ]
        go_wp2
        rw [rounds_succ]
        go_wp2
        all_goals
          go_region_held3 (fun w' => w'.cell? ⟨G, 6, none⟩ = some (.slice (some ⟨w.heap.size + 1, 0, none⟩) n n) ∧ w'.cell? ⟨G, 2, none⟩ = some (.slice (some ⟨tb, 0, none⟩) n tc) ∧ w'.cell? ⟨tb, k, none⟩ = some (.int .u64 (T k))) (simp [go_sem, *])
            (first | (go_at_call 23; refine (correctDate_any _ _ (by omega) (by omega) _).mono ?_; rintro e w' ⟨rfl, rfl⟩))
          refine inBlock_normal (then_rounds ?_)
          go_wp2
          go_roundw
          case measure => simp [intOf]; omega
          case rel =>
            have R := fun x hx => step_core (unhide H1) (unhide H2) (unhide HG1) (unhide HG0) nd x (max (T k) (C p + 1)) hx (unhide HCK).symm
            have hk1 : k + 1 ≤ n := by omega
            have hx0 : (1 : Int) ≤ 1073741823 ∧ (1073741823 : Int) ≤ 1073741823 := by omega
            first
              | (have hx : 1 ≤ ge p + 1 ∧ ge p + 1 ≤ 1073741823 := by omega
                 obtain ⟨r1, ge', r2, r3, r4⟩ := R _ hx
                 exact ⟨k + 1, hk1, rfl, r1, ge', r2, r3, r4⟩)
              | (obtain ⟨r1, ge', r2, r3, r4⟩ := R _ hx0
                 exact ⟨k + 1, hk1, rfl, r1, ge', r2, r3, r4⟩)
    · go_wp2
      go_end0
      have hkn : k = n := by omega
      subst hkn
      exact ⟨rfl, ge, hcore.congr (fun _ _ => rfl) (fun j hj => by simp [hj])⟩

theorem zzNumber_any (w : World) (G n : Nat) (T : Nat → Int) (P : Nat → Option Nat) (C : Nat → Int) (ta : Option Addr) (tb tc sb sc m pc : Nat) (pa : Option Addr) (pb : Nat) (s : Nat → Nat) (g0 c0 : Value) (hta : 0 < n → ta = some ⟨tb, 0, none⟩)
    (hG : w.heap[G]? = some (graphObj (.slice ta n tc) (.slice pa m pc) (.slice (some ⟨sb, 0, none⟩) (n + 1) sc) g0 c0))
    (hc : Cols w G n T P C tb sb m pc pa pb s) :
    Calls Try.prog 11 #[.pointer (some ⟨G, 0, none⟩)] w fun e w' => e = .returned (.tuple #[]) ∧ ∃ ge, Core w w' G n (.slice ta n tc) (.slice pa m pc) (.slice (some ⟨sb, 0, none⟩) (n + 1) sc) ge C := by
  have H := number_any w G n T P C ta tb tc sb sc m pc pa pb s g0 c0 hta hG hc
  have HH := hide H
  clear H hG hc hta
  go_enter Try.func11, Try.ntmps11
  go_wp2_with (go_at_call 19; refine (unhide HH).mono ?_; rintro e w' ⟨rfl, ge, h⟩)
  go_end0
  exact ⟨rfl, ge, h⟩
#print axioms zzNumber_any
end Go.Proofs.Qxb6614549a

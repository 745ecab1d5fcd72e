import Derived.Test.Qxb6615030aCA
namespace Go.Proofs.Qxb6615030a
open Go.RowKit

/-! ### ZZCheckCA -/
theorem zzCA (bv ca : Bool) (ku : Int) (w : World) :
    Calls Try.prog 7 #[.bool bv, .bool ca, .int .i64 ku] w fun e w' => ∃ v, e = .returned v ∧ Err v (refuses bv ca ku) ∧ Below w.heap.size w w' := by
  obtain ⟨c46, c47, c40⟩ := cert_cells w bv ca ku
  have H := hide (checkCA _ w.heap.size bv ca ku c46 c47 c40)
  clear c46 c47 c40
  go_enter Try.func7, Try.ntmps7
  go_wp2_with (first
    | (refine wpList_build_cert rfl (.tmp 7) (.tmp 8) (.tmp 9) rfl bv ca ku rfl rfl rfl ?_)
    | (refine wpList_box_cert rfl (.tmp 10) rfl bv ca ku rfl ?_)
    | (go_at_call 13; refine (unhide H).mono ?_; rintro e w' ⟨v, rfl, hv, hb⟩))
  go_ret
  exact ⟨_, rfl, hv, ((Below.refl _ _).alloc (Nat.le_refl _) _).trans (hb.mono (by show w.heap.size ≤ (w.heap.push _).size; simp))⟩

/-! ### The bits of an int -/
theorem wrap_toNat (v : BitVec 64) : IntKind.i64.wrap (v.toNat : Int) = v.toInt := by
  rw [IntKind.wrap_i64, BitVec.toInt_eq_toNat_cond]
  have := v.isLt
  split <;> omega
theorem and_i64 (x y : Int) : bits .and .i64 x y = (BitVec.ofInt 64 x &&& BitVec.ofInt 64 y).toInt := wrap_toNat _
theorem or_i64 (x y : Int) : bits .or .i64 x y = (BitVec.ofInt 64 x ||| BitVec.ofInt 64 y).toInt := wrap_toNat _
theorem andNot_i64 (x y : Int) : bits .andNot .i64 x y = (BitVec.ofInt 64 x &&& ~~~BitVec.ofInt 64 y).toInt := wrap_toNat _

theorem mask_or (a m : BitVec 64) : (a ||| m) &&& m = m := by
  apply BitVec.eq_of_getLsbD_eq
  intro i _
  simp only [BitVec.getLsbD_and, BitVec.getLsbD_or]
  cases a.getLsbD i <;> cases m.getLsbD i <;> rfl
theorem mask_mix (k o m : BitVec 64) : ((k &&& m) ||| (o &&& ~~~m)) &&& m = k &&& m := by
  apply BitVec.eq_of_getLsbD_eq
  intro i hi
  simp only [BitVec.getLsbD_and, BitVec.getLsbD_or, BitVec.getLsbD_not, hi, decide_true, Bool.true_and]
  cases k.getLsbD i <;> cases o.getLsbD i <;> cases m.getLsbD i <;> rfl

theorem or_has (ku : Int) : bits .and .i64 (bits .or .i64 ku 32) 32 = 32 := by
  rw [and_i64, or_i64, BitVec.ofInt_toInt, mask_or]
  decide
theorem or_ne (ku : Int) : (bits .or .i64 ku 32 != 0) = true := by
  rw [bne_iff_ne]
  intro h
  have := or_has ku
  rw [h] at this
  exact absurd this (by decide)
theorem refuses_or (bv ca : Bool) (ku : Int) : refuses bv ca (bits .or .i64 ku 32) = (bv && !ca) := by
  simp [refuses, or_has]
theorem refuses_zero (bv ca : Bool) : refuses bv ca 0 = (bv && !ca) := by
  simp [refuses]

theorem refuses_split (bv ca : Bool) (ku : Int) : refuses bv ca ku = ((bv && !ca) || refuses false false ku) := by
  simp [refuses]
theorem refuses_alone (ku : Int) : refuses false false ku = (ku != 0 && bits .and .i64 ku 32 == 0) := by
  simp [refuses]

/-- Bits of the one, all others of the other. -/
def mixed (ku ob : Int) : Int := bits .or .i64 (bits .and .i64 ku 32) (bits .andNot .i64 ob 32)
theorem mixed_has (ku ob : Int) : bits .and .i64 (mixed ku ob) 32 = bits .and .i64 ku 32 := by
  unfold mixed
  rw [and_i64 (bits .or .i64 _ _), or_i64, BitVec.ofInt_toInt, and_i64, andNot_i64, BitVec.ofInt_toInt, BitVec.ofInt_toInt, mask_mix, ← and_i64]
theorem refuses_mixed (bv ca : Bool) (ku ob : Int) (h : (mixed ku ob == 0) = (ku == 0)) : refuses bv ca (mixed ku ob) = refuses bv ca ku := by
  have h' : (mixed ku ob != 0) = (ku != 0) := by simp only [bne, h]
  simp only [refuses, mixed_has, h']
end Go.Proofs.Qxb6615030a

import Derived.Test.Qxb6614592aKeys
import Derived.Stop.Asserts
namespace Go.Proofs.Qxb6614592a
open Go.RowKit

/-- crypto/subtle.ConstantTimeCompare -/
theorem compare38 (w : World) (ao bo : Option Addr) (ab bb n m ac bc : Nat) (f g : Nat → Int) (ha : Bts w ao ab n f) (hb : Bts w bo bb m g) :
    Calls Try.prog 38 #[.slice ao n ac, .slice bo m bc] w fun e w' => e = .returned (.int .i64 (b2i (eqB n f m g))) ∧ ∃ k, w' = w.drewN k := by
  have H := hide (compare_any w ao bo ab bb n m ac bc f g ha hb)
  clear ha hb
  go_enter Try.func38, Try.ntmps38
  go_wp2_with (go_at_call 39; refine (unhide H).mono ?_; rintro e w' ⟨rfl, k, rfl⟩)
  go_ret
  exact ⟨rfl, _, rfl⟩

theorem b2i_one (b : Bool) : (b2i b == 1) = b := by cases b <;> rfl

/-! ### The type assertions, reckoned off the program's tables -/
theorem ta_key (x : Value) (w : World) : (Instr.typeAssert (.iface 36 x) 37 36 true).run Try.prog w = .ok (.tuple #[x, .bool true]) w := by kernel_rfl
theorem ta_nokey (x : Value) (w : World) : (Instr.typeAssert (.iface 26 x) 37 36 true).run Try.prog w = .ok (.tuple #[.slice none 0 0, .bool false]) w := by kernel_rfl
theorem ta_eq (x : Value) (w : World) : (Instr.typeAssert (.iface 36 x) 37 38 true).run Try.prog w = .ok (.tuple #[.iface 36 x, .bool true]) w := by kernel_rfl
theorem ta_noeq (x : Value) (w : World) : (Instr.typeAssert (.iface 26 x) 37 38 true).run Try.prog w = .ok (.tuple #[.nilIface, .bool false]) w := run_typeAssert_lacksB Try.underlying38 (by kernel_rfl) (by kernel_rfl) x 37 w

theorem method_equal (ao : Option Addr) (n c : Nat) (w : World) : (method 165 36 (.slice ao n c) "Equal").run Try.prog w = .ok (37, .slice ao n c) w := by kernel_rfl

/-- (ed25519.PublicKey).Equal, another such key. -/
theorem equal_ed (w : World) (ao bo : Option Addr) (ab bb n m ac bc : Nat) (f g : Nat → Int) (ha : Bts w ao ab n f) (hb : Bts w bo bb m g) :
    Calls Try.prog 37 #[.slice ao n ac, .iface 36 (.slice bo m bc)] w fun e w' => e = .returned (.bool (eqB n f m g)) ∧ ∃ k, w' = w.drewN k := by
  have H := hide (compare38 w ao bo ab bb n m ac bc f g ha hb)
  have HE := hide (b2i_one (eqB n f m g))
  clear ha hb
  have t1 := ta_key
  go_enter Try.func37, Try.ntmps37
  go_wp2_with (go_at_call 38; refine (unhide H).mono ?_; rintro e w' ⟨rfl, k, rfl⟩)
  go_ret
  exact ⟨ret_bool (unhide HE), _, rfl⟩

/-- (ed25519.PublicKey).Equal, a bare []byte. -/
theorem equal_raw (w : World) (ao bo : Option Addr) (n m ac bc : Nat) :
    Calls Try.prog 37 #[.slice ao n ac, .iface 26 (.slice bo m bc)] w fun e w' => e = .returned (.bool false) ∧ w' = w := by
  have t2 := ta_nokey
  go_enter Try.func37, Try.ntmps37
  go_wp2
  go_ret
  exact ⟨rfl, rfl⟩

/-- publicKeysEqual: two Ed25519 keys. -/
theorem keys_ed (w : World) (ao bo : Option Addr) (ab bb n m ac bc : Nat) (f g : Nat → Int) (ha : Bts w ao ab n f) (hb : Bts w bo bb m g) :
    Calls Try.prog 20 #[.iface 36 (.slice ao n ac), .iface 36 (.slice bo m bc)] w fun e w' => e = .returned (.bool (eqB n f m g)) ∧ ∃ k, w' = w.drewN k := by
  have H := hide (equal_ed w ao bo ab bb n m ac bc f g ha hb)
  clear ha hb
  have t1 := ta_eq
  have t3 := method_equal
  go_enter Try.func20, Try.ntmps20
  go_wp2_with (go_at_call 37; refine (unhide H).mono ?_; rintro e w' ⟨rfl, k, rfl⟩)
  go_ret
  exact ⟨rfl, _, rfl⟩

/-- publicKeysEqual: an Ed25519 key and a bare []byte. -/
theorem keys_ed_raw (w : World) (ao bo : Option Addr) (n m ac bc : Nat) :
    Calls Try.prog 20 #[.iface 36 (.slice ao n ac), .iface 26 (.slice bo m bc)] w fun e w' => e = .returned (.bool false) ∧ w' = w := by
  have t1 := ta_eq
  have t3 := method_equal
  go_enter Try.func20, Try.ntmps20
  go_wp2_with (go_at_call 37; refine (equal_raw _ _ _ _ _ _ _).mono ?_; rintro e w' ⟨rfl, rfl⟩)
  go_ret
  exact ⟨rfl, rfl⟩

/-- publicKeysEqual: a bare []byte has no method Equal. -/
theorem keys_raw (w : World) (x y : Value) :
    Calls Try.prog 20 #[.iface 26 x, y] w fun e w' => e = .returned (.bool false) ∧ w' = w := by
  have t2 := ta_noeq
  go_enter Try.func20, Try.ntmps20
  go_wp2
  go_ret
  exact ⟨rfl, rfl⟩

/-! ### The exported doors -/
theorem zzEd (w : World) (ao bo : Option Addr) (ab bb n m ac bc : Nat) (f g : Nat → Int) (ha : Bts w ao ab n f) (hb : Bts w bo bb m g) :
    Calls Try.prog 14 #[.slice ao n ac, .slice bo m bc] w fun e w' => e = .returned (.bool (eqB n f m g)) ∧ ∃ k, w' = w.drewN k := by
  have H := hide (keys_ed w ao bo ab bb n m ac bc f g ha hb)
  clear ha hb
  go_enter Try.func14, Try.ntmps14
  go_wp2_with (go_at_call 20; refine (unhide H).mono ?_; rintro e w' ⟨rfl, k, rfl⟩)
  go_ret
  exact ⟨rfl, _, rfl⟩
theorem zzRaw (w : World) (ao bo : Option Addr) (n m ac bc : Nat) :
    Calls Try.prog 16 #[.slice ao n ac, .slice bo m bc] w fun e w' => e = .returned (.bool false) ∧ w' = w := by
  go_enter Try.func16, Try.ntmps16
  go_wp2_with (go_at_call 20; refine (keys_raw _ _ _).mono ?_; rintro e w' ⟨rfl, rfl⟩)
  go_ret
  exact ⟨rfl, rfl⟩
theorem zzEdRaw (w : World) (ao bo : Option Addr) (n m ac bc : Nat) :
    Calls Try.prog 17 #[.slice ao n ac, .slice bo m bc] w fun e w' => e = .returned (.bool false) ∧ w' = w := by
  go_enter Try.func17, Try.ntmps17
  go_wp2_with (go_at_call 20; refine (keys_ed_raw _ _ _ _ _ _ _).mono ?_; rintro e w' ⟨rfl, rfl⟩)
  go_ret
  exact ⟨rfl, rfl⟩
theorem zzRawEd (w : World) (ao bo : Option Addr) (n m ac bc : Nat) :
    Calls Try.prog 18 #[.slice ao n ac, .slice bo m bc] w fun e w' => e = .returned (.bool false) ∧ w' = w := by
  go_enter Try.func18, Try.ntmps18
  go_wp2_with (go_at_call 20; refine (keys_raw _ _ _).mono ?_; rintro e w' ⟨rfl, rfl⟩)
  go_ret
  exact ⟨rfl, rfl⟩

set_option maxRecDepth 100000 in
set_option maxHeartbeats 400000 in
/-- zzEqualBytes -/
theorem equalBytes_any (w : World) (ao bo : Option Addr) (ab bb n m ac bc : Nat) (f g : Nat → Int) (ha : Bts w ao ab n f) (hb : Bts w bo bb m g) :
    Calls Try.prog 13 #[.slice ao n ac, .slice bo m bc] w fun e w' => e = .returned (.bool (eqB n f m g)) ∧ ∃ k, w' = w.drewN k := by
  have hn := ha.short
  have hm := hb.short
  by_cases hnm : n = m
  · subst hnm
    have hne : ((n : Int) != (n : Int)) = false := by simp
    have HA := hide ha
    have HB := hide hb
    clear ha hb
    go_enter Try.func13, Try.ntmps13
    go_wp2
    go_loopw [5] (fun i wx => ∃ k : Nat, k ≤ n ∧ i = .int .i64 k ∧ Hid (eqTo f g k = true) ∧ ∃ nd, wx = w.drewN nd) (fun i _ => n - (intOf i).toNat)
    case atStart => exact ⟨0, Nat.zero_le _, rfl, hide rfl, 0, rfl⟩
    case round =>
      obtain ⟨k, hk, rfl, HE, nd, rfl⟩ := hrel
      by_cases hlt : k < n
      · obtain rfl := (unhide HA).at0 (by omega)
        obtain rfl := (unhide HB).at0 (by omega)
        have ca := (unhide HA).cell k hlt
        have cb := (unhide HB).cell k hlt
        have hlt' : (k : Int) < (n : Int) := by omega
        by_cases hfg : f k = g k
        · have HK : Hid (eqTo f g (k + 1) = true) := hide (by simp [eqTo, unhide HE, hfg])
          have hbn : (f k != g k) = false := by simp [hfg]
          rw [← hfg] at cb hbn
          clear hfg
          go_wp2
          go_quiet (fail)
          go_wp2
          go_roundw
          case rel => exact ⟨k + 1, by omega, by go_num, HK, _, rfl⟩
          case measure => simp [intOf]; omega
        · have HK : Hid (eqB n f n g = false) := hide (eqB_false hlt hfg)
          have hbn : (f k != g k) = true := by simp [hfg]
          clear hfg
          go_wp2
          go_quiet (fail)
          go_wp2
          go_ret
          exact ⟨by rw [unhide HK]; rfl, _, World.drewN_drewN _ _ _⟩
      · obtain rfl : n = k := by omega
        have HK : Hid (eqB n f n g = true) := hide (by simp [eqB, unhide HE])
        go_wp2
        go_ret
        exact ⟨by rw [unhide HK]; rfl, _, rfl⟩
  · have hne : ((n : Int) != (m : Int)) = true := by rw [bne_iff_ne]; omega
    have HE : Hid (eqB n f m g = false) := hide (by simp [eqB, hnm])
    clear ha hb
    go_enter Try.func13, Try.ntmps13
    go_wp2
    go_ret
    exact ⟨by rw [unhide HE]; rfl, 0, rfl⟩
end Go.Proofs.Qxb6614592a

/-
  zzBytes, hasSpaceByte, firstSpaceByte, Breach.String: each computes a plain function.
-/
import Derived.Test.Qxb6617712aProg
import Derived.WalkKit
import Derived.WalkSpells
namespace Go.Proofs.Qxb6617712a.Law
open Go.RowKit

theorem hide {p : Prop} (h : p) : Hid p := h
theorem ret_bool {a b : Bool} (h : a = b) : Ending.returned (.bool a) = .returned (.bool b) := by rw [h]
theorem ret_int {k : IntKind} {a b : Int} (h : a = b) : Ending.returned (.int k a) = .returned (.int k b) := by rw [h]

/-! ### the bound on the lengths, laid by program -/
set_option maxHeartbeats 400000 in
theorem bytes_yes (a b c d : ByteArray) (w : World) (h : a.size + b.size + c.size + d.size ≤ 1048576) :
    Calls Try.prog 4 #[.string a, .string b, .string c, .string d] w fun e w' => e = .returned (.bool true) ∧ w' = w := by
  go_enter Try.func4, Try.ntmps4
  go_wp2_with fail
  go_ret
  exact ⟨rfl, rfl⟩
set_option maxHeartbeats 400000 in
theorem bytes_no (a b c d : ByteArray) (w : World) (ha : a.size ≤ 9223372036854775807) (hb : b.size ≤ 9223372036854775807) (hc : c.size ≤ 9223372036854775807) (hd : d.size ≤ 9223372036854775807) (h : 1048576 < a.size + b.size + c.size + d.size) :
    Calls Try.prog 4 #[.string a, .string b, .string c, .string d] w fun e w' => e = .returned (.bool false) ∧ w' = w := by
  go_enter Try.func4, Try.ntmps4
  go_wp2_with fail
  all_goals (go_ret; exact ⟨rfl, rfl⟩)

/-! ### hasSpaceByte -/
/-- The text holds a space. -/
def spB (s : ByteArray) : Bool := decide (∃ k, ∃ h : k < s.size, (s[k]'h).toNat = 32)

set_option maxHeartbeats 400000 in
theorem has_any (s : ByteArray) (w : World) (hs : s.size ≤ 1048576) :
    Calls Try.prog 5 #[.string s] w fun e w' => e = .returned (.bool (spB s)) ∧ w' = w := by
  go_enter Try.func5, Try.ntmps5
  go_wp2_with fail
  go_loop [3] (fun i => ∃ k : Nat, k ≤ s.size ∧ i = .int .i64 k ∧ Hid (∀ j (h : j < s.size), j < k → (s[j]'h).toNat ≠ 32)) (fun i => s.size - (intOf i).toNat)
  case atStart => exact ⟨0, Nat.zero_le _, rfl, fun _ _ h => by omega⟩
  case round =>
    obtain ⟨k, hk, rfl, HZ⟩ := hrel
    by_cases hlt : k < s.size
    · by_cases h32 : (s[k]'hlt).toNat = 32
      · have hb : (((s[k]'hlt).toNat : Int) == 32) = true := by simp [h32]
        have HE : Hid (spB s = true) := by show _ = _; unfold spB; rw [decide_eq_true_iff]; exact ⟨k, hlt, h32⟩
        clear h32 HZ
        go_wp2_with fail
        go_ret
        exact ⟨ret_bool HE.out.symm, rfl⟩
      · have hb : (((s[k]'hlt).toNat : Int) == 32) = false := by simp; omega
        have HN : Hid (∀ j (h : j < s.size), j < k + 1 → (s[j]'h).toNat ≠ 32) := fun j h hj => by
          by_cases e : j = k
          · subst e; exact h32
          · exact HZ.out j h (by omega)
        clear h32 HZ
        go_wp2_with fail
        go_round
        case rel => exact ⟨k + 1, by omega, by go_num, HN⟩
        case measure => simp [intOf]; omega
    · have HE : Hid (spB s = false) := by
        show _ = _
        unfold spB
        rw [decide_eq_false_iff_not]
        rintro ⟨j, h, hj⟩
        exact HZ.out j h (by omega) hj
      clear HZ
      go_wp2_with fail
      go_ret
      exact ⟨ret_bool HE.out.symm, rfl⟩
theorem has_at (s : ByteArray) (b : Bool) (hb : Hid (spB s = b)) (w : World) (hs : s.size ≤ 1048576) :
    Calls Try.prog 5 #[.string s] w fun e w' => e = .returned (.bool b) ∧ w' = w := by
  have := has_any s w hs
  rwa [hb.out] at this

/-! ### firstSpaceByte -/
set_option maxHeartbeats 400000 in
theorem first_at (s : ByteArray) (n : Nat) (w : World) (hs : s.size ≤ 1048576) (hn : n < s.size) (h32 : Hid ((s[n]'hn).toNat = 32)) (hno : Hid (∀ j (h : j < s.size), j < n → (s[j]'h).toNat ≠ 32)) :
    Calls Try.prog 7 #[.string s] w fun e w' => e = .returned (.int .i64 (n : Int)) ∧ w' = w := by
  go_enter Try.func7, Try.ntmps7
  go_wp2_with fail
  go_loop [3] (fun i => ∃ k : Nat, k ≤ n ∧ i = .int .i64 k) (fun i => n - (intOf i).toNat)
  case atStart => exact ⟨0, Nat.zero_le _, rfl⟩
  case round =>
    obtain ⟨k, hk, rfl⟩ := hrel
    have hlt : k < s.size := by omega
    by_cases hkn : k = n
    · have hb : (((s[k]'hlt).toNat : Int) == 32) = true := by
        subst hkn
        have := h32.out
        simp [this]
      have HE := hide hkn
      clear hkn
      go_wp2_with fail
      go_ret
      exact ⟨ret_int (by rw [HE.out]), rfl⟩
    · have hb : (((s[k]'hlt).toNat : Int) == 32) = false := by
        have := hno.out k hlt (by omega)
        simp; omega
      go_wp2_with fail
      go_round
      case rel => exact ⟨k + 1, by omega, by go_num⟩
      case measure => simp [intOf]; omega

/-! ### Breach.String -/
/-- The printed line. -/
def line (r f : ByteArray) : ByteArray := (r ++ ⟨#[32]⟩) ++ f

set_option maxHeartbeats 400000 in
theorem string_any (r f : ByteArray) (w : World) (hr : r.size ≤ 1048576) (hf : f.size ≤ 1048576) :
    Calls Try.prog 6 #[.agg #[.string r, .string f]] w fun e w' => e = .returned (.string (line r f)) ∧ w' = w.alloc (.cells #[.string r, .string f] 26) := by
  go_enter Try.func6, Try.ntmps6
  go_wp2_with fail
  go_ret
  exact ⟨rfl, rfl⟩
end Go.Proofs.Qxb6617712a.Law

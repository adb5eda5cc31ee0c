import Derived.Test.Qxb6616721aShelf
import Derived.Test.Qxb6616721aPlain
import Derived.WalkKit
import Derived.WalkSpells
import Derived.Deep.QuietTactic
import Derived.BigQuiet
namespace Go.Proofs.Qxb6616721a.Law
open Go.RowKit

set_option maxHeartbeats 400000 in
theorem hv_digit (c : Int) (h1 : 48 ≤ c) (h2 : c ≤ 57) (w : World) :
    Calls Try.prog 10 #[.int .u8 c] w fun e w' => e = .returned (.tuple #[.int .u8 (c - 48), .bool true]) ∧ w' = w := by
  go_enter Try.func10, Try.ntmps10
  go_wp2
  go_ret2
  exact ⟨rfl, rfl⟩

set_option maxHeartbeats 400000 in
theorem hv_letter (c : Int) (h1 : 97 ≤ c) (h2 : c ≤ 102) (w : World) :
    Calls Try.prog 10 #[.int .u8 c] w fun e w' => e = .returned (.tuple #[.int .u8 (c - 97 + 10), .bool true]) ∧ w' = w := by
  go_enter Try.func10, Try.ntmps10
  go_wp2
  go_ret2
  exact ⟨rfl, rfl⟩

theorem hv_any (c : Int) (d : Nat) (hd : d < 16) (h : Hid (c = (dgN d : Int))) (w : World) :
    Calls Try.prog 10 #[.int .u8 c] w fun e w' => e = .returned (.tuple #[.int .u8 d, .bool true]) ∧ w' = w := by
  have hc := h.out
  unfold dgN at hc
  by_cases hl : d < 10
  · rw [if_pos hl] at hc
    have := hv_digit c (by omega) (by omega) w
    rwa [show c - 48 = (d : Int) by omega] at this
  · rw [if_neg hl] at hc
    have := hv_letter c (by omega) (by omega) w
    rwa [show c - 97 + 10 = (d : Int) by omega] at this

theorem or_table : (List.range 16).all (fun p => (List.range 16).all fun q => bits BinOp.or IntKind.u8 ((p : Int) * 16) (q : Int) == ((16 * p + q : Nat) : Int)) = true := by kernel_rfl
theorem or_nibbles (p q : Nat) (hp : p < 16) (hq : q < 16) : bits BinOp.or IntKind.u8 ((p : Int) * 16) (q : Int) = ((16 * p + q : Nat) : Int) := by
  have h1 := List.all_eq_true.1 or_table p (List.mem_range.2 hp)
  have h2 := List.all_eq_true.1 h1 q (List.mem_range.2 hq)
  exact eq_of_beq h2

set_option maxHeartbeats 400000 in
theorem hb_any (c1 c2 : Int) (p q : Nat) (hp : p < 16) (hq : q < 16) (h1 : Hid (c1 = (dgN p : Int))) (h2 : Hid (c2 = (dgN q : Int))) (w : World) :
    Calls Try.prog 6 #[.int .u8 c1, .int .u8 c2] w fun e w' => e = .returned (.int .u8 ((16 * p + q : Nat) : Int)) ∧ w' = w := by
  go_enter Try.func6, Try.ntmps6
  go_wp2_with fail
  refine (hv_any c1 p hp h1 _).mono ?_
  rintro e w1 ⟨rfl, rfl⟩
  go_wp2_with fail
  refine (hv_any c2 q hq h2 _).mono ?_
  rintro e w2 ⟨rfl, rfl⟩
  go_wp2_with fail
  go_ret
  exact ⟨congrArg (fun z => Ending.returned (.int .u8 z)) (or_nibbles p q hp hq), rfl⟩

/-! ### zzLowerHexOfLen -/
set_option maxHeartbeats 400000 in
theorem low_any (s : ByteArray) (hs : s.size = 32) (hd : Hid (∀ k (h : k < s.size), ∃ d : Nat, d < 16 ∧ s[k].toNat = dgN d)) (w : World) :
    Calls Try.prog 5 #[.string s, .int .i64 32] w fun e w' => e = .returned (.bool true) ∧ w' = w := by
  go_enter Try.func5, Try.ntmps5
  go_wp2_with fail
  go_loop [5] (fun i => ∃ k : Nat, k ≤ 32 ∧ i = .int .i64 k) (fun i => 32 - (intOf i).toNat)
  case atStart => exact ⟨0, Nat.zero_le _, rfl⟩
  case round =>
    obtain ⟨k, hk, rfl⟩ := hrel
    by_cases hlt : k < 32
    · obtain ⟨d, hd16, hsd⟩ := hd.out k (by omega)
      have HD : Hid ((s[k].toNat : Int) = (dgN d : Int)) := by show _ = _; rw [hsd]
      clear hsd
      go_wp2_with fail
      refine (hv_any _ d hd16 HD _).mono ?_
      rintro e w1 ⟨rfl, rfl⟩
      go_wp2_with fail
      go_round
      case rel => exact ⟨k + 1, by omega, by go_num⟩
      case measure => simp [intOf]; omega
    · go_wp2_with fail
      go_ret
      exact ⟨rfl, rfl⟩

/-! ### zzCompareTexts -/
theorem ret_int {k : IntKind} {a b : Int} (h : a = b) : Ending.returned (.int k a) = .returned (.int k b) := by rw [h]

set_option maxHeartbeats 400000 in
theorem texts_any (x y : ByteArray) (hx : x.size = 32) (hy : y.size = 32) (w : World) :
    Calls Try.prog 8 #[.string x, .string y] w fun e w' => e = .returned (.int .i64 (cmpL x.data.toList y.data.toList)) ∧ ∃ n, w' = w.drewN n := by
  have C0 : Hid (cmpL x.data.toList y.data.toList = cmpL (x.data.toList.drop 0) (y.data.toList.drop 0)) := rfl
  have HX : Hid (x.data.toList.length = 32) := by show _ = _; simpa using hx
  have HY : Hid (y.data.toList.length = 32) := by show _ = _; simpa using hy
  go_enter Try.func8, Try.ntmps8
  go_wp2_with fail
  go_loopw [6] (fun i wr => ∃ k n : Nat, k ≤ 32 ∧ i = .int .i64 k ∧ wr = w.drewN n ∧ Hid (cmpL x.data.toList y.data.toList = cmpL (x.data.toList.drop k) (y.data.toList.drop k))) (fun i _ => 32 - (intOf i).toNat)
  case atStart => exact ⟨0, 0, Nat.zero_le _, rfl, rfl, C0⟩
  case round =>
    clear C0
    obtain ⟨k, n, hk, rfl, rfl, HC⟩ := hrel
    by_cases hlt : k < 32
    · have hkx : k < x.size := by omega
      have hky : k < y.size := by omega
      have kx : k < x.data.toList.length := by rw [HX.out]; exact hlt
      have ky : k < y.data.toList.length := by rw [HY.out]; exact hlt
      have S1 : Hid ((x[k]'hkx).toNat < (y[k]'hky).toNat → cmpL x.data.toList y.data.toList = -1) := fun h => by rw [HC.out]; exact cmpL_drop_lt _ _ k kx ky h
      have S2 : Hid ((y[k]'hky).toNat < (x[k]'hkx).toNat → cmpL x.data.toList y.data.toList = 1) := fun h => by rw [HC.out]; exact cmpL_drop_gt _ _ k kx ky h
      have S3 : Hid ((x[k]'hkx).toNat = (y[k]'hky).toNat → cmpL x.data.toList y.data.toList = cmpL (x.data.toList.drop (k + 1)) (y.data.toList.drop (k + 1))) := fun h => by rw [HC.out]; exact cmpL_drop_eq _ _ k kx ky h
      clear HC kx ky
      by_cases h1 : (x[k]'hkx).toNat < (y[k]'hky).toNat
      · go_wp2_with fail
        go_quiet (fail)
        go_wp2_with fail
        go_ret
        exact ⟨ret_int (S1.out h1).symm, _, by first | rfl | (simp only [World.drewN_drewN]; rfl)⟩
      · by_cases h2 : (y[k]'hky).toNat < (x[k]'hkx).toNat
        · go_wp2_with fail
          go_quiet (fail)
          go_wp2_with fail
          go_quiet (fail)
          go_wp2_with fail
          go_ret
          exact ⟨ret_int (S2.out h2).symm, _, by first | rfl | (simp only [World.drewN_drewN]; rfl)⟩
        · go_wp2_with fail
          go_quiet (fail)
          go_wp2_with fail
          go_quiet (fail)
          go_wp2_with fail
          go_roundw
          case rel => exact ⟨k + 1, _, by omega, by go_num, by first | rfl | (simp only [World.drewN_drewN]; rfl), S3.out (by omega)⟩
          case measure => simp [intOf]; omega
    · go_wp2_with fail
      go_ret
      exact ⟨ret_int (by rw [HC.out, cmpL_drop_end _ _ k (by rw [HX.out]; omega) (by rw [HY.out]; omega)]), n, rfl⟩
end Go.Proofs.Qxb6616721a.Law

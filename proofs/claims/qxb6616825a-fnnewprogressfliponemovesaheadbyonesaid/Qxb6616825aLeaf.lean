import Derived.Test.Qxb6616825aProg
import Derived.WalkKit
import Derived.WalkSpells
import Derived.Deep.QuietTactic
import Derived.BigQuiet
import Derived.Deep.OwnRows
namespace Go.Proofs.Qxb6616825a.Law
open Go.RowKit

/-- What cell i of a row of bools holds. -/
def fB (bs : List Bool) : Nat → Value := fun i => .bool (bs.getD i false)
/-- How many are true. -/
def cnt (bs : List Bool) : Nat := bs.count true

theorem ret_int {k : IntKind} {a b : Int} (h : a = b) : Ending.returned (.int k a) = .returned (.int k b) := by rw [h]

/-! ### zzCloneBools -/
set_option maxHeartbeats 400000 in
theorem clone_nil (w : World) : Calls Try.prog 8 #[.slice none 0 0] w fun e w' => e = .returned (.slice none 0 0) ∧ w' = w := by
  have hn : ∀ w : World, (binOp .eql 22 (.slice none 0 0) (.slice none 0 0)).run Try.prog w = .ok (.bool true) w := fun w => Lib.run_eql_slice_nil w 22 4 none 0 0 0 0 Try.underlying22
  go_enter Try.func8, Try.ntmps8
  go_wp2_with fail
  go_ret
  exact ⟨rfl, rfl⟩

/-- The row while k cells have been copied. -/
def gB (bs : List Bool) (k : Nat) : Nat → Value := fun i => if i < k then fB bs i else .bool false

theorem gB_step (bs : List Bool) (k j : Nat) (v : Bool) (h : bs.getD k false = v) : (if j = k then Value.bool v else gB bs k j) = gB bs (k + 1) j := by
  unfold gB fB
  by_cases e : j = k
  · subst e
    rw [if_pos rfl, if_pos (by omega), h]
  · rw [if_neg e]
    by_cases hl : j < k
    · rw [if_pos hl, if_pos (by omega)]
    · rw [if_neg hl, if_neg (by omega)]

set_option maxHeartbeats 400000 in
theorem clone_zero (x : Addr) (c : Nat) (bs : List Bool) (w : World) :
    Calls Try.prog 8 #[.slice (some x) 0 c] w fun e w' => e = .returned (.slice (some ⟨w.heap.size, 0, none⟩) 0 0) ∧ w'.rowIs w.heap.size 4 0 (fB bs) ∧ Below w.heap.size w w' := by
  have hnil : ∀ w : World, (binOp .eql 22 (.slice (some x) 0 c) (.slice none 0 0)).run Try.prog w = .ok (.bool false) w := fun w => Lib.run_eql_slice_nil w 22 4 (some x) 0 c 0 0 Try.underlying22
  have hmk : ∀ w : World, (Instr.makeSlice 22 (.int .i64 0) (.int .i64 0)).run Try.prog w = .ok (.slice (some ⟨w.heap.size, 0, none⟩) 0 0) (w.alloc (.cells (madeCells #[.bool false] 0) 4)) :=
    fun w => run_make_row' (P := Try.prog) 22 4 (.bool false) 1 Try.underlying22 (by kernel_rfl) rfl .i64 .i64 0 (by omega) (by omega) w
  have HR : Hid ((w.alloc (.cells (madeCells #[.bool false] 0) 4)).rowIs w.heap.size 4 0 (fB bs)) := (World.rowIs_made w (.bool false) 0 4).congr (fun i hi => by omega)
  go_enter Try.func8, Try.ntmps8
  go_wp2_with fail
  go_loop [4] (fun i => i = .int .i64 0) (fun _ => 0)
  case atStart => exact rfl
  case round =>
    subst hrel
    go_wp2_with fail
    go_ret
    exact ⟨rfl, HR.out, (Below.refl _ w).alloc (Nat.le_refl _) _⟩

set_option maxHeartbeats 400000 in
theorem clone_at (b off n c : Nat) (bs : List Bool) (w : World) (hn : n ≤ 1048576) (hcell : Hid (∀ i, i < n → w.cell? ⟨b, off + i, none⟩ = some (fB bs i))) (hlt : 0 < n → b < w.heap.size) :
    Calls Try.prog 8 #[.slice (some ⟨b, off, none⟩) n c] w fun e w' => e = .returned (.slice (some ⟨w.heap.size, 0, none⟩) n n) ∧ w'.rowIs w.heap.size 4 n (fB bs) ∧ Below w.heap.size w w' := by
  have hnil : ∀ w : World, (binOp .eql 22 (.slice (some ⟨b, off, none⟩) n c) (.slice none 0 0)).run Try.prog w = .ok (.bool false) w := fun w => Lib.run_eql_slice_nil w 22 4 (some ⟨b, off, none⟩) n c 0 0 Try.underlying22
  have hmk : ∀ w : World, (Instr.makeSlice 22 (.int .i64 (n : Int)) (.int .i64 (n : Int))).run Try.prog w = .ok (.slice (some ⟨w.heap.size, 0, none⟩) n n) (w.alloc (.cells (madeCells #[.bool false] n) 4)) :=
    fun w => run_make_row' (P := Try.prog) 22 4 (.bool false) 1 Try.underlying22 (by kernel_rfl) rfl .i64 .i64 n (by omega) (by omega) w
  have HR : Hid ((w.alloc (.cells (madeCells #[.bool false] n) 4)).rowIs w.heap.size 4 n (gB bs 0)) := (World.rowIs_made w (.bool false) n 4).congr (fun i hi => by simp [gB])
  have HB : Hid (Below w.heap.size w (w.alloc (.cells (madeCells #[.bool false] n) 4))) := (Below.refl _ w).alloc (Nat.le_refl _) _
  have HL : Hid (0 < n → b < w.heap.size) := hlt
  clear hlt
  go_enter Try.func8, Try.ntmps8
  go_wp2_with fail
  clear hmk hnil
  go_loopw [4] (fun i wr => ∃ k : Nat, k ≤ n ∧ i = .int .i64 k ∧ Hid (wr.rowIs w.heap.size 4 n (gB bs k)) ∧ Hid (Below w.heap.size w wr)) (fun i _ => n - (intOf i).toNat)
  case atStart => exact ⟨0, Nat.zero_le _, rfl, HR, HB⟩
  case round =>
    clear HR HB
    obtain ⟨k, hk, rfl, HR, HB⟩ := hrel
    by_cases hkn : k < n
    · have hbw := HL.out (by omega)
      obtain ⟨v, hv⟩ : ∃ v : Bool, bs.getD k false = v := ⟨_, rfl⟩
      have hc : wr.cell? ⟨b, off + k, none⟩ = some (.bool v) := by rw [HB.out.cell (p := ⟨b, off + k, none⟩) hbw, hcell.out k hkn, fB, hv]
      have hf : wr.frozen? ⟨w.heap.size, k, none⟩ = false := HR.out.frozen _
      have hd : wr.cell? ⟨w.heap.size, k, none⟩ = some (gB bs k k) := HR.out.cell hkn
      have HV : Hid (bs.getD k false = v) := hv
      clear hv hbw
      go_wp2_with fail
      refine ⟨⟨k + 1, by omega, by go_num, (HR.out.set k _).congr (fun j hj => ?_), HB.out.setCell (Nat.le_refl _) _⟩, by simp [intOf]; omega⟩
      exact gB_step bs k j v HV.out
    · go_wp2_with fail
      go_ret
      exact ⟨rfl, HR.out.congr (fun i hi => by rw [gB, if_pos (by omega)]), HB.out⟩

theorem clone_any (x : Addr) (n c : Nat) (bs : List Bool) (w : World) (hn : n ≤ 1048576) (hcell : ∀ i, i < n → w.cell? (x.add i) = some (fB bs i)) :
    Calls Try.prog 8 #[.slice (some x) n c] w fun e w' => e = .returned (.slice (some ⟨w.heap.size, 0, none⟩) n n) ∧ w'.rowIs w.heap.size 4 n (fB bs) ∧ Below w.heap.size w w' := by
  by_cases h0 : n = 0
  · subst h0
    exact clone_zero x c bs w
  · obtain ⟨b, off, spot⟩ := x
    have hc := hcell 0 (by omega)
    have hspot : spot = none := by simpa [Addr.add] using World.cell?_spot hc
    subst hspot
    refine clone_at b off n c bs w hn (fun i hi => ?_) (fun _ => ?_)
    · have e := hcell i hi
      rwa [show (⟨b, off, none⟩ : Addr).add i = ⟨b, off + i, none⟩ by unfold Addr.add; split <;> simp_all] at e
    · have := block_lt_of_cell hc
      simpa [Addr.add] using this

/-! ### countTrue -/
set_option maxHeartbeats 400000 in
theorem count_nil (w : World) : Calls Try.prog 19 #[.slice none 0 0] w fun e w' => e = .returned (.int .i64 0) ∧ w' = w := by
  go_enter Try.func19, Try.ntmps19
  go_wp2_with fail
  go_loop [3, 8] (fun s i => s = .int .i64 0 ∧ i = .int .i64 0) (fun _ _ => 0)
  case atStart => exact ⟨rfl, rfl⟩
  case round =>
    obtain ⟨rfl, rfl⟩ := hrel
    go_wp2_with fail
    go_ret
    exact ⟨rfl, rfl⟩

theorem cnt_le (bs : List Bool) : cnt bs ≤ bs.length := List.count_le_length
theorem cnt_snoc (bs : List Bool) (k : Nat) (hk : k < bs.length) : cnt (bs.take (k + 1)) = cnt (bs.take k) + if bs.getD k false then 1 else 0 := by
  rw [List.take_succ_eq_append_getElem hk, cnt, List.count_append, ← cnt]
  have : bs.getD k false = bs[k] := by rw [List.getD_eq_getElem?_getD, List.getElem?_eq_getElem hk]; rfl
  rw [this]
  cases bs[k] <;> simp

set_option maxHeartbeats 400000 in
theorem count_any (b off n c : Nat) (bs : List Bool) (w : World) (hn : n ≤ 1048576) (hl : Hid (bs.length = n)) (hcell : Hid (∀ i, i < n → w.cell? ⟨b, off + i, none⟩ = some (fB bs i))) :
    Calls Try.prog 19 #[.slice (some ⟨b, off, none⟩) n c] w fun e w' => e = .returned (.int .i64 (cnt bs : Int)) ∧ w' = w := by
  go_enter Try.func19, Try.ntmps19
  go_wp2_with fail
  go_loop [3, 8] (fun s i => ∃ k m : Nat, k ≤ n ∧ m ≤ k ∧ i = .int .i64 k ∧ s = .int .i64 m ∧ Hid (m = cnt (bs.take k))) (fun _ i => n - (intOf i).toNat)
  case atStart => exact ⟨0, 0, Nat.zero_le _, Nat.zero_le _, rfl, rfl, rfl⟩
  case round =>
    obtain ⟨k, m, hk, hm, rfl, rfl, HM⟩ := hrel
    by_cases hkn : k < n
    · obtain ⟨v, hv⟩ : ∃ v : Bool, bs.getD k false = v := ⟨_, rfl⟩
      have hc : w.cell? ⟨b, off + k, none⟩ = some (.bool v) := by rw [hcell.out k hkn, fB, hv]
      have HS : Hid (cnt (bs.take (k + 1)) = m + if v then 1 else 0) := by show _ = _; rw [cnt_snoc bs k (by rw [hl.out]; exact hkn), ← HM.out, hv]
      clear hv HM
      cases v with
      | false =>
        go_wp2_with fail
        go_round
        case rel => exact ⟨k + 1, m, by omega, by omega, by go_num, rfl, HS.out.symm⟩
        case measure => simp [intOf]; omega
      | true =>
        go_wp2_with fail
        go_round
        case rel => exact ⟨k + 1, m + 1, by omega, by omega, by go_num, by go_num, HS.out.symm⟩
        case measure => simp [intOf]; omega
    · have hkk : k = n := by omega
      have HE : Hid ((m : Int) = (cnt bs : Int)) := by show _ = _; rw [HM.out, hkk, List.take_of_length_le (by rw [hl.out]; omega)]
      clear HM hkk
      go_wp2_with fail
      go_ret
      exact ⟨ret_int HE.out, rfl⟩

/-! ### zzSameBools -/
set_option maxHeartbeats 400000 in
theorem same_nil (w : World) : Calls Try.prog 12 #[.slice none 0 0, .slice none 0 0] w fun e w' => e = .returned (.bool true) ∧ w' = w := by
  go_enter Try.func12, Try.ntmps12
  go_wp2_with fail
  go_loop [5] (fun i => i = .int .i64 0) (fun _ => 0)
  case atStart => exact rfl
  case round =>
    subst hrel
    go_wp2_with fail
    go_ret
    exact ⟨rfl, rfl⟩

set_option maxHeartbeats 400000 in
theorem same_any (b off c b2 off2 c2 n : Nat) (bs : List Bool) (w : World) (hn : n ≤ 1048576) (h1 : Hid (∀ i, i < n → w.cell? ⟨b, off + i, none⟩ = some (fB bs i))) (h2 : Hid (∀ i, i < n → w.cell? ⟨b2, off2 + i, none⟩ = some (fB bs i))) :
    Calls Try.prog 12 #[.slice (some ⟨b, off, none⟩) n c, .slice (some ⟨b2, off2, none⟩) n c2] w fun e w' => e = .returned (.bool true) ∧ ∃ q, w' = w.drewN q := by
  go_enter Try.func12, Try.ntmps12
  go_wp2_with fail
  go_loopw [5] (fun i wr => ∃ k : Nat, k ≤ n ∧ i = .int .i64 k ∧ Hid (∃ q, wr = w.drewN q)) (fun i _ => n - (intOf i).toNat)
  case atStart => exact ⟨0, Nat.zero_le _, rfl, 0, rfl⟩
  case round =>
    obtain ⟨k, hk, rfl, HW⟩ := hrel
    by_cases hkn : k < n
    · obtain ⟨v, hv⟩ : ∃ v : Bool, bs.getD k false = v := ⟨_, rfl⟩
      have e1 : wr.cell? ⟨b, off + k, none⟩ = some (.bool v) := by obtain ⟨q, e⟩ := HW.out; rw [e, World.cell?_drewN, h1.out k hkn, fB, hv]
      have e2 : wr.cell? ⟨b2, off2 + k, none⟩ = some (.bool v) := by obtain ⟨q, e⟩ := HW.out; rw [e, World.cell?_drewN, h2.out k hkn, fB, hv]
      clear hv
      go_wp2_with fail
      go_quiet (fail)
      go_wp2_with fail
      go_roundw
      case rel => exact ⟨k + 1, by omega, by go_num, by obtain ⟨q, e⟩ := HW.out; rw [e]; exact ⟨_, World.drewN_drewN ..⟩⟩
      case measure => simp [intOf]; omega
    · go_wp2_with fail
      go_ret
      exact ⟨rfl, HW.out⟩

/-! ### the bound on the length, laid by program -/
set_option maxHeartbeats 400000 in
theorem bytes_no (a : Int) (x : Option Addr) (n c : Nat) (k : Int) (w : World) (hn : ¬ n ≤ 1048576) (hc : n ≤ 9223372036854775807) :
    Calls Try.prog 7 #[.int .i64 a, .slice x n c, .int .i64 k] w fun e w' => e = .returned (.bool false) ∧ w' = w := by
  go_enter Try.func7, Try.ntmps7
  go_wp2_with fail
  go_ret
  exact ⟨rfl, rfl⟩
set_option maxHeartbeats 400000 in
theorem bytes_yes (a : Int) (x : Option Addr) (n c : Nat) (k : Int) (w : World) (hn : n ≤ 1048576) :
    Calls Try.prog 7 #[.int .i64 a, .slice x n c, .int .i64 k] w fun e w' => e = .returned (.bool true) ∧ w' = w := by
  go_enter Try.func7, Try.ntmps7
  go_wp2_with fail
  go_ret
  exact ⟨rfl, rfl⟩
set_option maxHeartbeats 400000 in
theorem bytes2_no (a : Int) (x : Option Addr) (n c : Nat) (k : Int) (w : World) (hn : ¬ n ≤ 1048576) (hc : n ≤ 9223372036854775807) :
    Calls Try.prog 14 #[.int .i64 a, .slice x n c, .int .i64 k] w fun e w' => e = .returned (.bool false) ∧ w' = w := by
  go_enter Try.func14, Try.ntmps14
  go_wp2_with fail
  go_ret
  exact ⟨rfl, rfl⟩
set_option maxHeartbeats 400000 in
theorem bytes2_yes (a : Int) (x : Option Addr) (n c : Nat) (k : Int) (w : World) (hn : n ≤ 1048576) :
    Calls Try.prog 14 #[.int .i64 a, .slice x n c, .int .i64 k] w fun e w' => e = .returned (.bool true) ∧ w' = w := by
  go_enter Try.func14, Try.ntmps14
  go_wp2_with fail
  go_ret
  exact ⟨rfl, rfl⟩
end Go.Proofs.Qxb6616825a.Law

import Derived.Test.Qxb6616825aLeaf
namespace Go.Proofs.Qxb6616825a.Law
open Go.RowKit

theorem bcell {W w1 : World} (hb : Below W.heap.size W w1) : (∀ b o, b < W.heap.size → w1.cell? ⟨b, o, none⟩ = W.cell? ⟨b, o, none⟩) ∧ (∀ b o, b < W.heap.size → w1.frozen? ⟨b, o, none⟩ = W.frozen? ⟨b, o, none⟩) :=
  ⟨fun b o h => hb.cell (p := ⟨b, o, none⟩) h, fun b o h => hb.frozen (p := ⟨b, o, none⟩) h⟩

set_option maxHeartbeats 400000 in
theorem new17 (a : Int) (x : Option Addr) (n c : Nat) (m : Int) (w : World) (hcount : Hid (∀ W, Below w.heap.size w W → Calls Try.prog 19 #[.slice x n c] W fun e w' => e = .returned (.int .i64 m) ∧ w' = W)) :
    Calls Try.prog 17 #[.int .i64 a, .slice x n c] w fun e w' => e = .returned (.agg #[.int .i64 a, .slice x n c, .int .i64 m]) ∧ Below w.heap.size w w' := by
  go_enter Try.func17, Try.ntmps17
  go_wp2_with fail
  refine (hcount.out _ ((Below.refl _ w).alloc (Nat.le_refl _) _)).mono ?_
  rintro e w1 ⟨rfl, rfl⟩
  go_wp2_with fail
  exact bodyPost_ret (v := .agg #[.int .i64 a, .slice x n c, .int .i64 m]) (by simp [results, Try.results17, go_sem]) rfl ⟨rfl, (Below.refl _ _).alloc (Nat.le_refl _) _⟩

set_option maxHeartbeats 400000 in
theorem new9 (a : Int) (x : Option Addr) (n c : Nat) (m : Int) (w : World) (hcount : Hid (∀ W, Below w.heap.size w W → Calls Try.prog 19 #[.slice x n c] W fun e w' => e = .returned (.int .i64 m) ∧ w' = W)) :
    Calls Try.prog 9 #[.int .i64 a, .slice x n c] w fun e w' => e = .returned (.agg #[.int .i64 a, .slice x n c, .int .i64 m]) ∧ Below w.heap.size w w' := by
  have hb0 : Hid (∀ o, Below w.heap.size w (w.alloc o)) := fun o => (Below.refl _ w).alloc (Nat.le_refl _) o
  go_enter Try.func9, Try.ntmps9
  go_wp2_with fail
  refine (new17 a x n c m _ (fun W hW => hcount.out W ((hb0.out _).trans (hW.mono (by simp))))).mono ?_
  rintro e w1 ⟨rfl, hb⟩
  obtain ⟨hc, hf⟩ := bcell hb
  have HB : Hid (Below w.heap.size w w1) := (hb0.out (.cells #[.int .i64 0, .slice none 0 0, .int .i64 0] 26)).trans (hb.mono (by simp))
  clear hb
  go_wp2_with fail
  exact bodyPost_ret (v := .agg #[.int .i64 a, .slice x n c, .int .i64 m]) (by simp [results, Try.results9, go_sem, hc]) rfl ⟨rfl, ((HB.out.setCell (Nat.le_refl _) _).setCell (Nat.le_refl _) _).setCell (Nat.le_refl _) _⟩

set_option maxHeartbeats 400000 in
theorem ahead10 (a : Int) (x : Option Addr) (n c : Nat) (m : Int) (w : World) :
    Calls Try.prog 10 #[.agg #[.int .i64 a, .slice x n c, .int .i64 m]] w fun e w' => e = .returned (.int .i64 m) ∧ w' = w.alloc (.cells #[.int .i64 a, .slice x n c, .int .i64 m] 26) := by
  go_enter Try.func10, Try.ntmps10
  go_wp2_with fail
  go_ret
  exact ⟨rfl, rfl⟩
set_option maxHeartbeats 400000 in
theorem next11 (a : Int) (x : Option Addr) (n c : Nat) (m : Int) (w : World) :
    Calls Try.prog 11 #[.agg #[.int .i64 a, .slice x n c, .int .i64 m]] w fun e w' => e = .returned (.int .i64 a) ∧ w' = w.alloc (.cells #[.int .i64 a, .slice x n c, .int .i64 m] 26) := by
  go_enter Try.func11, Try.ntmps11
  go_wp2_with fail
  go_ret
  exact ⟨rfl, rfl⟩
set_option maxHeartbeats 400000 in
theorem acked13 (a : Int) (x : Option Addr) (n c : Nat) (m : Int) (w : World) :
    Calls Try.prog 13 #[.agg #[.int .i64 a, .slice x n c, .int .i64 m]] w fun e w' => e = .returned (.slice x n c) ∧ w' = w.alloc (.cells #[.int .i64 a, .slice x n c, .int .i64 m] 26) := by
  go_enter Try.func13, Try.ntmps13
  go_wp2_with fail
  go_ret
  exact ⟨rfl, rfl⟩
end Go.Proofs.Qxb6616825a.Law

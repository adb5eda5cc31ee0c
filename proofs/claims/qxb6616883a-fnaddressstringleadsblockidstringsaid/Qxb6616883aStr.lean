/-
  Address.String, BlockID.String, zzAllZero32.
-/
import Derived.Test.Qxb6616883aHex
import Derived.Test.Qxb6616883aNil
namespace Go.Proofs.Qxb6616883a.Law
open Go.RowKit Go.Lib

theorem hexN (b n : Nat) (bs : List UInt8) (hl : Hid (bs.length = n)) (hn : n ≤ 32) (w : World)
    (hsrc : ∀ i (h : i < bs.length), w.cell? ⟨b, 0 + i, none⟩ = some (.int .u8 ((bs[i]'h).toNat : Int))) (hb : b < w.heap.size) :
    Calls Try.prog 15 #[.slice (some ⟨b, 0, none⟩) n n] w fun e w' => e = .returned (.string (txt bs)) ∧ Below w.heap.size w w' := by
  have h := Try.hex_EncodeToString_bytes b 0 n bs w hsrc hb (by rw [hl.out]; omega)
  rw [hl.out] at h
  exact h

theorem cells_new (w : World) (bs : List UInt8) (t : TypeId) : ∀ i (h : i < bs.length), (w.alloc (.cells (rowA bs) t)).cell? ⟨w.heap.size, 0 + i, none⟩ = some (.int .u8 ((bs[i]'h).toNat : Int)) := fun i h => by
  rw [cell_of_row _ _ _ _ _ (0, 0) (heap_alloc_last w _), Nat.zero_add, rowA_at bs i h]

set_option maxHeartbeats 400000 in
theorem addr_any (bs : List UInt8) (hl : Hid (bs.length = 20)) (w : World) :
    Calls Try.prog 8 #[.agg (rowA bs)] w fun e w' => e = .returned (.string (txt bs)) ∧ Below w.heap.size w w' := by
  go_enter Try.func8, Try.ntmps8
  go_wp2_with fail
  refine (hexN _ 20 bs hl (by omega) _ (cells_new w bs 29) (by simp)).mono ?_
  rintro e w1 ⟨rfl, hb⟩
  have HB : Hid (Below w.heap.size w w1) := ((Below.refl _ w).alloc (Nat.le_refl _) _).trans (hb.mono (by simp))
  clear hb
  go_wp2_with fail
  go_ret
  exact ⟨rfl, HB.out⟩

set_option maxHeartbeats 400000 in
theorem block_yes (x : List UInt8) (hx : Hid (x.length = 32)) (hz : Hid (zeroB x = true)) (w : World) :
    Calls Try.prog 10 #[.agg (rowA x)] w fun e w' => e = .returned (.string ⟨#[110, 105, 108]⟩) ∧ Below w.heap.size w w' := by
  have hA := heap_alloc_new w (.cells (rowA x) 23)
  go_enter Try.func10, Try.ntmps10
  go_wp2_with (refine wpList_load_row rfl 23 _ rfl w.heap.size rfl 23 (rowA x) (0, 0) _ hA Try.underlying23 rfl (by rw [rowA_size, hx.out]; kernel_rfl) ?_)
  refine (isNil_at x hx true hz _).mono ?_
  rintro e w1 ⟨rfl, hb⟩
  have HB : Hid (Below w.heap.size w w1) := ((Below.refl _ w).alloc (Nat.le_refl _) _).trans (hb.mono (by simp))
  clear hb hA
  go_wp2_with fail
  go_ret
  exact ⟨rfl, HB.out⟩

set_option maxHeartbeats 400000 in
theorem block_no (x : List UInt8) (hx : Hid (x.length = 32)) (hz : Hid (zeroB x = false)) (w : World) :
    Calls Try.prog 10 #[.agg (rowA x)] w fun e w' => e = .returned (.string (txt x)) ∧ Below w.heap.size w w' := by
  have hA := heap_alloc_new w (.cells (rowA x) 23)
  go_enter Try.func10, Try.ntmps10
  go_wp2_with (refine wpList_load_row rfl 23 _ rfl w.heap.size rfl 23 (rowA x) (0, 0) _ hA Try.underlying23 rfl (by rw [rowA_size, hx.out]; kernel_rfl) ?_)
  refine (isNil_at x hx false hz _).mono ?_
  rintro e w1 ⟨rfl, hb⟩
  have HB : Hid (Below w.heap.size w w1) := ((Below.refl _ w).alloc (Nat.le_refl _) _).trans (hb.mono (by simp))
  have HC : Hid (∀ i (h : i < x.length), w1.cell? ⟨w.heap.size, 0 + i, none⟩ = some (.int .u8 ((x[i]'h).toNat : Int))) := fun i h => (hb.cell (p := ⟨w.heap.size, 0 + i, none⟩) (by simp)).trans (cells_new w x 23 i h)
  have HL : Hid (w.heap.size < w1.heap.size) := by have := hb.size; simp at this; show _ < _; omega
  clear hb hA
  go_wp2_with fail
  refine (hexN _ 32 x hx (by omega) _ HC.out HL.out).mono ?_
  rintro e w2 ⟨rfl, hb⟩
  have HB2 : Hid (Below w.heap.size w w2) := HB.out.trans (hb.mono (Nat.le_of_lt HL.out))
  clear hb
  go_wp2_with fail
  go_ret
  exact ⟨rfl, HB2.out⟩

theorem zero_iff (x : List UInt8) : zeroB x = true ↔ ∀ j (h : j < x.length), (x[j]'h).toNat = 0 := by
  unfold zeroB
  rw [List.all_eq_true]
  constructor
  · intro hh j hj
    have := hh _ (List.getElem_mem hj)
    rw [beq_iff_eq] at this
    rw [this]; rfl
  · intro hh b hb
    obtain ⟨j, hj, rfl⟩ := List.getElem_of_mem hb
    rw [beq_iff_eq]
    exact UInt8.toNat_inj.1 (hh j hj)

set_option maxHeartbeats 400000 in
theorem all_any (x : List UInt8) (hx : Hid (x.length = 32)) (w : World) :
    Calls Try.prog 11 #[.agg (rowA x)] w fun e w' => e = .returned (.bool (zeroB x)) ∧ Below w.heap.size w w' := by
  go_enter Try.func11, Try.ntmps11
  go_wp2_with fail
  go_loop [3] (fun i => ∃ j : Nat, j ≤ 32 ∧ i = .int .i64 j ∧ Hid (∀ m (h : m < x.length), m < j → (x[m]'h).toNat = 0)) (fun i => 32 - (RowKit.intOf i).toNat)
  case atStart => exact ⟨0, Nat.zero_le _, rfl, fun _ _ h => by omega⟩
  case round =>
    obtain ⟨j, hj, rfl, HZ⟩ := hrel
    by_cases hlt : j < 32
    · have jx : j < x.length := by rw [hx.out]; exact hlt
      obtain ⟨p, hp⟩ : ∃ p : Nat, (x[j]'jx).toNat = p := ⟨_, rfl⟩
      have c1 := rowA_at x j jx
      rw [hp] at c1
      have HP := hide hp
      clear hp
      by_cases hp0 : p = 0
      · have hb2 : ((p : Int) != 0) = false := by simp [hp0]
        have HN : Hid (∀ m (h : m < x.length), m < j + 1 → (x[m]'h).toNat = 0) := fun m h h1 => by
          by_cases e : m = j
          · subst e; rw [HP.out, hp0]
          · exact HZ.out m h (by omega)
        clear hp0 HZ HP
        go_wp2_with fail
        go_round
        case rel => exact ⟨j + 1, by omega, by go_num, HN⟩
        case measure => simp [RowKit.intOf]; omega
      · have hb2 : ((p : Int) != 0) = true := by simp; omega
        have HE : Hid (zeroB x = false) := by
          show _ = _
          rw [← Bool.not_eq_true, zero_iff]
          intro h
          exact hp0 (by rw [← HP.out]; exact h j jx)
        clear HZ HP
        go_wp2_with fail
        go_ret
        exact ⟨ret_bool HE.out.symm, (Below.refl _ w).alloc (Nat.le_refl _) _⟩
    · have HE : Hid (zeroB x = true) := (zero_iff x).2 (fun m h => HZ.out m h (by rw [hx.out] at h; omega))
      clear HZ
      go_wp2_with fail
      go_ret
      exact ⟨ret_bool HE.out.symm, (Below.refl _ w).alloc (Nat.le_refl _) _⟩
theorem all_at (x : List UInt8) (hx : Hid (x.length = 32)) (b : Bool) (hb : Hid (zeroB x = b)) (w : World) :
    Calls Try.prog 11 #[.agg (rowA x)] w fun e w' => e = .returned (.bool b) ∧ Below w.heap.size w w' := by
  have := all_any x hx w
  rwa [hb.out] at this
end Go.Proofs.Qxb6616883a.Law

import Derived.Test.Qxb6616721aLeaf
import Derived.Deep.WholeRow
namespace Go.Proofs.Qxb6616721a.Law
open Go.RowKit

/-- The cells of an array of bytes. -/
def rowA (bs : List UInt8) : Array Value := (bs.map fun b => Value.int .u8 (b.toNat : Int)).toArray
theorem rowA_size (bs : List UInt8) : (rowA bs).size = bs.length := by simp [rowA]
theorem rowA_at (bs : List UInt8) (k : Nat) (h : k < bs.length) : (rowA bs)[k]? = some (.int .u8 ((bs[k]'h).toNat : Int)) := by
  simp [rowA, h]

theorem hex16 (b : Nat) (bs : List UInt8) (hl : Hid (bs.length = 16)) (w : World)
    (hsrc : ∀ i (h : i < bs.length), w.cell? ⟨b, 0 + i, none⟩ = some (.int .u8 ((bs[i]'h).toNat : Int))) (hb : b < w.heap.size) :
    Calls Try.prog 9 #[.slice (some ⟨b, 0, none⟩) 16 16] w fun e w' => e = .returned (.string ⟨(Lib.Hx.encode bs).toArray⟩) ∧ Below w.heap.size w w' := by
  have h := Try.hex_EncodeToString_bytes b 0 16 bs w hsrc hb (by rw [hl.out]; omega)
  rwa [hl.out] at h

set_option maxHeartbeats 400000 in
theorem string_any (bs : List UInt8) (hl : Hid (bs.length = 16)) (w : World) :
    Calls Try.prog 4 #[.agg (rowA bs)] w fun e w' => e = .returned (.string ⟨(Lib.Hx.encode bs).toArray⟩) ∧ Below w.heap.size w w' := by
  go_enter Try.func4, Try.ntmps4
  go_wp2_with fail
  refine (hex16 _ bs hl _ (fun i h => by rw [cell_of_row _ _ _ _ _ (0, 0) (heap_alloc_last w _), Nat.zero_add, rowA_at bs i h]) (by simp)).mono ?_
  rintro e w1 ⟨rfl, hb⟩
  have HB : Hid (Below (w.alloc (.cells (rowA bs) 23)).heap.size (w.alloc (.cells (rowA bs) 23)) w1) := hb
  clear hb
  go_wp2_with fail
  go_ret
  exact ⟨rfl, ((Below.refl _ w).alloc (Nat.le_refl _) _).trans (HB.out.mono (by simp))⟩

theorem bel {B : Nat} {a w : World} (h : Below B a w) (n : Nat) : Below B a (w.drewN n) := h.trans ⟨rfl, rfl, rfl, Nat.le_refl _, fun _ _ => rfl⟩
theorem bel2 (w : World) (A B : Obj) : Below w.heap.size w ((w.alloc A).alloc B) := ((Below.refl _ w).alloc (Nat.le_refl _) _).alloc (by simp) _

set_option maxHeartbeats 400000 in
theorem ids_any (x y : List UInt8) (hx : Hid (x.length = 16)) (hy : Hid (y.length = 16)) (w : World) :
    Calls Try.prog 7 #[.agg (rowA x), .agg (rowA y)] w fun e w' => e = .returned (.int .i64 (cmpL x y)) ∧ Below w.heap.size w w' := by
  go_enter Try.func7, Try.ntmps7
  go_wp2_with fail
  go_loopw [5] (fun i wr => ∃ k n : Nat, k ≤ 16 ∧ i = .int .i64 k ∧ wr = ((w.alloc (.cells (rowA x) 22)).alloc (.cells (rowA y) 22)).drewN n ∧ Hid (cmpL x y = cmpL (x.drop k) (y.drop k))) (fun i _ => 16 - (intOf i).toNat)
  case atStart => exact ⟨0, 0, Nat.zero_le _, rfl, rfl, rfl⟩
  case round =>
    obtain ⟨k, n, hk, rfl, rfl, HC⟩ := hrel
    by_cases hlt : k < 16
    · have kx : k < x.length := by rw [hx.out]; exact hlt
      have ky : k < y.length := by rw [hy.out]; exact hlt
      obtain ⟨p, hp⟩ : ∃ p : Nat, p = (x[k]'kx).toNat := ⟨_, rfl⟩
      obtain ⟨q, hq⟩ : ∃ q : Nat, q = (y[k]'ky).toNat := ⟨_, rfl⟩
      have c1 := rowA_at x k kx
      have c2 := rowA_at y k ky
      rw [← hp] at c1
      rw [← hq] at c2
      have S1 : Hid (p < q → cmpL x y = -1) := fun h => by rw [HC.out]; exact cmpL_drop_lt _ _ k kx ky (by omega)
      have S2 : Hid (q < p → cmpL x y = 1) := fun h => by rw [HC.out]; exact cmpL_drop_gt _ _ k kx ky (by omega)
      have S3 : Hid (p = q → cmpL x y = cmpL (x.drop (k + 1)) (y.drop (k + 1))) := fun h => by rw [HC.out]; exact cmpL_drop_eq _ _ k kx ky (by omega)
      clear HC hp hq
      by_cases h1 : p < q
      · go_wp2_with fail
        go_quiet (fail)
        go_wp2_with fail
        go_ret
        exact ⟨ret_int (S1.out h1).symm, bel (bel (bel2 w _ _) _) _⟩
      · by_cases h2 : q < p
        · go_wp2_with fail
          go_quiet (fail)
          go_wp2_with fail
          go_quiet (fail)
          go_wp2_with fail
          go_ret
          exact ⟨ret_int (S2.out h2).symm, by repeat (first | exact bel2 w _ _ | refine bel ?_ _)⟩
        · go_wp2_with fail
          go_quiet (fail)
          go_wp2_with fail
          go_quiet (fail)
          go_wp2_with fail
          go_roundw
          case rel => exact ⟨k + 1, _, by omega, by go_num, by first | rfl | (simp only [World.drewN_drewN]; rfl), S3.out (by omega)⟩
          case measure => simp [intOf]; omega
    · go_wp2_with fail
      go_ret
      exact ⟨ret_int (by rw [HC.out, cmpL_drop_end _ _ k (by rw [hx.out]; omega) (by rw [hy.out]; omega)]), bel (bel2 w _ _) _⟩
end Go.Proofs.Qxb6616721a.Law

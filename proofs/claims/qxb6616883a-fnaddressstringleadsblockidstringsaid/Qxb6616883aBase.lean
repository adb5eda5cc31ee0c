/-
  Arrays of bytes: their cells; '==' between two of them; IsNil.
-/
import Derived.Test.Qxb6616883aProg
import Derived.WalkKit
import Derived.WalkSpells
import Derived.Deep.QuietTactic
import Derived.BigQuiet
import Derived.Deep.WholeRow
import Derived.ChangeKeysEq
namespace Go.Proofs.Qxb6616883a.Law
open Go.RowKit

theorem hide {p : Prop} (h : p) : Hid p := h
theorem ret_bool {a b : Bool} (h : a = b) : Ending.returned (.bool a) = .returned (.bool b) := by rw [h]
theorem bel {B : Nat} {a w : World} (h : Below B a w) (n : Nat) : Below B a (w.drewN n) := h.trans ⟨rfl, rfl, rfl, Nat.le_refl _, fun _ _ => rfl⟩

/-- The cells of an array of bytes. -/
def rowA (bs : List UInt8) : Array Value := (bs.map fun b => Value.int .u8 (b.toNat : Int)).toArray
theorem rowA_size (bs : List UInt8) : (rowA bs).size = bs.length := by simp [rowA]
theorem rowA_at (bs : List UInt8) (k : Nat) (h : k < bs.length) : (rowA bs)[k]? = some (.int .u8 ((bs[k]'h).toNat : Int)) := by
  simp [rowA, h]

/-- Every byte is zero. -/
def zeroB (bs : List UInt8) : Bool := bs.all fun b => b == 0

theorem run_part5 (bs : List UInt8) (i : Nat) (h : i < bs.length) (w : World) : (part 5 (rowA bs) (i * Try.prog.cellsOf 5)).run Try.prog w = .ok (.int .u8 ((bs[i]'h).toNat : Int)) w := by
  have c5 : Try.prog.cellsOf 5 = 1 := by kernel_rfl
  rw [c5, Nat.mul_one]
  simp only [part, Sem.run_bind, Try.isAgg5, Result.andThen, Bool.false_eq_true, if_false, rowA_at bs i h, Sem.run_pure]

theorem run_items (d : Nat) (x y : List UInt8) (w : World) : ∀ (is : List Nat), (∀ i ∈ is, i < x.length ∧ i < y.length) →
    (Op.eqItems (d + 1) 5 (Try.prog.cellsOf 5) (rowA x) (rowA y) is).run Try.prog w = .ok (is.all fun i => x[i]? == y[i]?) w
  | [], _ => by simp [Op.eqItems]
  | i :: is, h => by
    obtain ⟨h1, h2⟩ := h i (List.mem_cons_self ..)
    have ih := run_items d x y w is (fun j hj => h j (List.mem_cons_of_mem _ hj))
    simp only [Op.eqItems, Sem.run_bind, run_part5 x i h1 w, run_part5 y i h2 w, Result.andThen_ok, run_equalIn_int w d 5 .u8 .u8 _ _ Try.underlying5]
    have e : (((x[i]'h1).toNat : Int) == ((y[i]'h2).toNat : Int)) = (x[i]? == y[i]?) := by
      rw [List.getElem?_eq_getElem h1, List.getElem?_eq_getElem h2, Bool.eq_iff_iff]
      simp [← UInt8.toNat_inj]
      omega
    rw [e]
    cases hb : (x[i]? == y[i]?) with
    | false => simp [List.all_cons, hb]
    | true => simp [List.all_cons, hb, ih]

theorem all_eq (x y : List UInt8) (n : Nat) (hx : x.length = n) (hy : y.length = n) : ((List.range n).all fun i => x[i]? == y[i]?) = (x == y) := by
  rw [Bool.eq_iff_iff, List.all_eq_true, beq_iff_eq]
  constructor
  · intro h
    apply List.ext_getElem?
    intro i
    by_cases hi : i < n
    · exact eq_of_beq (h i (List.mem_range.2 hi))
    · rw [List.getElem?_eq_none (by omega), List.getElem?_eq_none (by omega)]
  · rintro rfl i _
    simp

theorem eq_bytes (x y : List UInt8) (hx : x.length = 32) (hy : y.length = 32) (w : World) : (Op.equalIn 10000 23 (.agg (rowA x)) (.agg (rowA y))).run Try.prog w = .ok (x == y) w := by
  obtain ⟨i, hi⟩ : ∃ i, Try.prog.info? 5 = some i := by
    have : (Try.prog.info? 5).isSome = true := by kernel_rfl
    exact Option.isSome_iff_exists.1 this
  rw [run_equalIn_array w 9999 (rowA x) (rowA y) Try.underlying23 hi, run_items 9998 x y w (List.range 32) (fun i hi => by have := List.mem_range.1 hi; omega), all_eq x y 32 hx hy]

theorem zero_eq (x : List UInt8) (hx : x.length = 32) : (x == List.replicate 32 0) = zeroB x := by
  rw [Bool.eq_iff_iff, beq_iff_eq, zeroB, List.all_eq_true, List.eq_replicate_iff]
  simp [hx]

theorem zero_row : rowA (List.replicate 32 0) = #[.int .u8 0, .int .u8 0, .int .u8 0, .int .u8 0, .int .u8 0, .int .u8 0, .int .u8 0, .int .u8 0, .int .u8 0, .int .u8 0, .int .u8 0, .int .u8 0, .int .u8 0, .int .u8 0, .int .u8 0, .int .u8 0, .int .u8 0, .int .u8 0, .int .u8 0, .int .u8 0, .int .u8 0, .int .u8 0, .int .u8 0, .int .u8 0, .int .u8 0, .int .u8 0, .int .u8 0, .int .u8 0, .int .u8 0, .int .u8 0, .int .u8 0, .int .u8 0] := by
  simp [rowA, List.replicate]
theorem eq_zero (x : List UInt8) (hx : x.length = 32) (w : World) : (Op.equalIn 10000 23 (.agg (rowA x)) (.agg #[.int .u8 0, .int .u8 0, .int .u8 0, .int .u8 0, .int .u8 0, .int .u8 0, .int .u8 0, .int .u8 0, .int .u8 0, .int .u8 0, .int .u8 0, .int .u8 0, .int .u8 0, .int .u8 0, .int .u8 0, .int .u8 0, .int .u8 0, .int .u8 0, .int .u8 0, .int .u8 0, .int .u8 0, .int .u8 0, .int .u8 0, .int .u8 0, .int .u8 0, .int .u8 0, .int .u8 0, .int .u8 0, .int .u8 0, .int .u8 0, .int .u8 0, .int .u8 0])).run Try.prog w = .ok (zeroB x) w := by
  rw [← zero_row, eq_bytes x _ hx (by simp) w, zero_eq x hx]

set_option maxHeartbeats 400000 in
theorem isNil_any (x : List UInt8) (hx : Hid (x.length = 32)) (w : World) :
    Calls Try.prog 6 #[.agg (rowA x)] w fun e w' => e = .returned (.bool (zeroB x)) ∧ Below w.heap.size w w' := by
  have hA := heap_alloc_new w (.cells (rowA x) 23)
  have hq := eq_zero x hx.out
  go_enter Try.func6, Try.ntmps6
  go_wp2_with (refine wpList_load_row rfl 23 _ rfl w.heap.size rfl 23 (rowA x) (0, 0) _ hA Try.underlying23 rfl (by rw [rowA_size, hx.out]; kernel_rfl) ?_)
  go_ret
  exact ⟨rfl, (Below.refl _ w).alloc (Nat.le_refl _) _⟩

/-! ### zzZeroExcept32 -/
/-- Every byte but byte k is zero. -/
def exceptB (x : List UInt8) (k : Nat) : Bool := zeroB (x.set k 0)

theorem except_iff (x : List UInt8) (k : Nat) : exceptB x k = true ↔ ∀ j (h : j < x.length), j ≠ k → (x[j]'h).toNat = 0 := by
  unfold exceptB zeroB
  rw [List.all_eq_true]
  constructor
  · intro h j hj hne
    have hm : x[j] ∈ x.set k 0 := by
      rw [List.mem_iff_getElem]
      exact ⟨j, by simpa using hj, by rw [List.getElem_set_ne (fun e => hne e.symm)]⟩
    have := h _ hm
    rw [beq_iff_eq] at this
    rw [this]; rfl
  · intro h b hb
    obtain ⟨j, hj, rfl⟩ := List.getElem_of_mem hb
    rw [beq_iff_eq]
    by_cases e : k = j
    · subst e
      rw [List.getElem_set_self]
    · rw [List.getElem_set_ne e]
      have := h j (by simpa using hj) (fun q => e q.symm)
      exact UInt8.toNat_inj.1 this

set_option maxHeartbeats 400000 in
theorem except_any (x : List UInt8) (k : Nat) (hx : Hid (x.length = 32)) (w : World) :
    Calls Try.prog 7 #[.agg (rowA x), .int .i64 k] w fun e w' => e = .returned (.bool (exceptB x k)) ∧ Below w.heap.size w w' := by
  go_enter Try.func7, Try.ntmps7
  go_wp2_with fail
  go_loop [5] (fun i => ∃ j : Nat, j ≤ 32 ∧ i = .int .i64 j ∧ Hid (∀ m (h : m < x.length), m < j → m ≠ k → (x[m]'h).toNat = 0)) (fun i => 32 - (intOf i).toNat)
  case atStart => exact ⟨0, Nat.zero_le _, rfl, fun _ _ h => by omega⟩
  case round =>
    obtain ⟨j, hj, rfl, HZ⟩ := hrel
    by_cases hlt : j < 32
    · have jx : j < x.length := by rw [hx.out]; exact hlt
      obtain ⟨p, hp⟩ : ∃ p : Nat, (x[j]'jx).toNat = p := ⟨_, rfl⟩
      have c1 := rowA_at x j jx
      rw [hp] at c1
      have HP := hide hp
      clear hp
      by_cases hjk : j = k
      · have hb : ((j : Int) != (k : Int)) = false := by simp [hjk]
        have HN : Hid (∀ m (h : m < x.length), m < j + 1 → m ≠ k → (x[m]'h).toNat = 0) := fun m h h1 h2 => HZ.out m h (by omega) h2
        clear hjk HZ HP
        go_wp2_with fail
        go_round
        case rel => exact ⟨j + 1, by omega, by go_num, HN⟩
        case measure => simp [intOf]; omega
      · have hb : ((j : Int) != (k : Int)) = true := by simp; omega
        by_cases hp0 : p = 0
        · have hb2 : ((p : Int) != 0) = false := by simp [hp0]
          have HN : Hid (∀ m (h : m < x.length), m < j + 1 → m ≠ k → (x[m]'h).toNat = 0) := fun m h h1 h2 => by
            by_cases e : m = j
            · subst e; rw [HP.out, hp0]
            · exact HZ.out m h (by omega) h2
          clear hp0 HZ HP
          go_wp2_with fail
          go_round
          case rel => exact ⟨j + 1, by omega, by go_num, HN⟩
          case measure => simp [intOf]; omega
        · have hb2 : ((p : Int) != 0) = true := by simp; omega
          have HE : Hid (exceptB x k = false) := by
            show _ = _
            rw [← Bool.not_eq_true, except_iff]
            intro h
            exact hp0 (by rw [← HP.out]; exact h j jx hjk)
          clear HZ HP
          go_wp2_with fail
          go_ret
          exact ⟨ret_bool HE.out.symm, (Below.refl _ w).alloc (Nat.le_refl _) _⟩
    · have HE : Hid (exceptB x k = true) := (except_iff x k).2 (fun m h hm => HZ.out m h (by rw [hx.out] at h; omega) hm)
      clear HZ
      go_wp2_with fail
      go_ret
      exact ⟨ret_bool HE.out.symm, (Below.refl _ w).alloc (Nat.le_refl _) _⟩
end Go.Proofs.Qxb6616883a.Law

import Derived.Test.Qxb6616883aBase
namespace Go.Proofs.Qxb6616883a.Law
open Go.RowKit

section
variable {P : Program}
/-- A whole array into the block that was made last. -/
theorem wpList_store_new {ops : Array Oper} {rest : List Oper} {o : Oper} {a : Act} {w : World} {Q : Exit → Act → World → Prop} (hgd : o.guard = none) (ty : TypeId) (x y : Operand) (ho : o.op = .store ty x y)
    (cells : Array Value) (hx : a.eval x = .pointer (some ⟨w.heap.size, 0, none⟩)) (hy : a.eval y = .agg cells)
    (t : TypeId) (old : Array Value) (hi : (P.info? ty).map (·.size) = some cells.size)
    (hold : old.size = cells.size) (h1 : cells.all (·.oneCell') = true)
    (h : wpList P ops Q rest (a.put o.dst undef) (w.alloc (.cells cells t))) : wpList P ops Q (o :: rest) a (w.alloc (.cells old t)) := by
  refine wpList_store_row hgd ty x y ho w.heap.size cells hx hy t old (heap_alloc_new w _) hi hold h1 ?_
  rw [World.setRow_alloc_new]
  exact h
end

theorem rowA_one (x : List UInt8) : (rowA x).all (·.oneCell') = true := by
  rw [Array.all_eq_true_iff_forall_mem]
  intro v hv
  simp only [rowA, List.mem_toArray, List.mem_map] at hv
  obtain ⟨b, _, rfl⟩ := hv
  rfl
theorem rowA_set (x : List UInt8) (k : Nat) (b : UInt8) (z : Int) (hz : (b.toNat : Int) = z) : (rowA x).setIfInBounds k (.int .u8 z) = rowA (x.set k b) := by
  apply Array.toList_inj.1
  rw [Array.toList_setIfInBounds, rowA, rowA, List.map_set, hz]

theorem isNil_at (x : List UInt8) (hx : Hid (x.length = 32)) (b : Bool) (hb : Hid (zeroB x = b)) (w : World) :
    Calls Try.prog 6 #[.agg (rowA x)] w fun e w' => e = .returned (.bool b) ∧ Below w.heap.size w w' := by
  have := isNil_any x hx w
  rwa [hb.out] at this
theorem except_at (x : List UInt8) (k : Nat) (hx : Hid (x.length = 32)) (b : Bool) (hb : Hid (zeroB (x.set k 0) = b)) (w : World) :
    Calls Try.prog 7 #[.agg (rowA x), .int .i64 k] w fun e w' => e = .returned (.bool b) ∧ Below w.heap.size w w' := by
  have := except_any x k hx w
  rw [exceptB, hb.out] at this
  exact this

theorem zero_set (x : List UInt8) (k : Nat) (h : k < x.length) : zeroB x = (zeroB (x.set k 0) && ((x[k]'h).toNat == 0)) := by
  rw [Bool.eq_iff_iff, Bool.and_eq_true]
  have hz : zeroB x = true ↔ ∀ j (h : j < x.length), (x[j]'h).toNat = 0 := by
    unfold zeroB
    rw [List.all_eq_true]
    constructor
    · intro hh j hj
      have := hh _ (List.getElem_mem hj)
      rw [beq_iff_eq] at this
      rw [this]; rfl
    · intro hh b hb
      obtain ⟨j, hj, rfl⟩ := List.getElem_of_mem hb
      rw [beq_iff_eq]
      exact UInt8.toNat_inj.1 (hh j hj)
  have he := except_iff x k
  unfold exceptB at he
  rw [he, hz, beq_iff_eq]
  constructor
  · intro hh
    exact ⟨fun j hj _ => hh j hj, hh k h⟩
  · rintro ⟨h1, h2⟩ j hj
    by_cases e : j = k
    · subst e; exact h2
    · exact h1 j hj e

/-- One round's walk: 'wh' (the id is nil), 'cn' (nil but for byte k), the byte's number p. -/
structure Rnd (x : List UInt8) (wh cn : Bool) (k p : Nat) : Prop where
  nul : zeroB (x.set k 0) = cn
  cell : (rowA x)[k]? = some (.int .u8 (p : Int))
  law : wh = (cn && (p == 0))

set_option maxHeartbeats 1000000 in
theorem nil_wh (x : List UInt8) (wh : Bool) (hx : Hid (x.length = 32)) (hwh : Hid (zeroB x = wh)) (w : World) :
    Calls Try.prog 3 #[.agg (rowA x)] w fun e w' => e = .returned (.bool true) ∧ Below w.heap.size w w' := by
  have hA := heap_alloc_new w (.cells (rowA x) 22)
  have hsz : (Try.prog.info? 22).map (·.size) = some (rowA x).size := by rw [rowA_size, hx.out]; kernel_rfl
  have HSZ := hide hsz
  clear hsz
  go_enter Try.func3, Try.ntmps3
  go_wp2_with (refine wpList_load_row rfl 22 _ rfl w.heap.size rfl 22 (rowA x) (0, 0) _ hA Try.underlying22 rfl HSZ.out ?_)
  refine (isNil_at x hx wh hwh _).mono ?_
  rintro e w1 ⟨rfl, hb⟩
  have HA1 : Hid (w1.heap[w.heap.size]? = some (.cells (rowA x) 22)) := (hb.block w.heap.size (by simp)).trans hA
  have HB1 : Hid (Below w.heap.size w w1) := ((Below.refl _ w).alloc (Nat.le_refl _) _).trans (hb.mono (by simp))
  have HZ1 : Hid (w.heap.size < w1.heap.size) := by have := hb.size; simp at this; show _ < _; omega
  clear hA hb
  go_wp2_with fail
  go_loopw [4] (fun i wr => ∃ k : Nat, k ≤ 32 ∧ i = .int .i64 k ∧ Hid (wr.heap[w.heap.size]? = some (.cells (rowA x) 22)) ∧ Hid (Below w.heap.size w wr) ∧ Hid (w.heap.size < wr.heap.size)) (fun i _ => 32 - (intOf i).toNat)
  case atStart => exact ⟨0, Nat.zero_le _, rfl, HA1, HB1, HZ1⟩
  case round =>
    clear HA1 HB1 HZ1
    obtain ⟨k, hk, rfl, HA, HB, HZ⟩ := hrel
    by_cases hlt : k < 32
    · obtain ⟨cn, p, HR⟩ : ∃ (cn : Bool) (p : Nat), Hid (Rnd x wh cn k p) := by
        have hk' : k < x.length := by rw [hx.out]; exact hlt
        exact ⟨zeroB (x.set k 0), (x[k]'hk').toNat, rfl, rowA_at x k hk', by rw [← hwh.out]; exact zero_set x k hk'⟩
      have c1 := HR.out.cell
      have hset := rowA_set x k 0 0 rfl
      have HN : Hid ((x.set k 0).length = 32) := by show _ = _; rw [List.length_set, hx.out]
      have HSY : Hid ((Try.prog.info? 22).map (·.size) = some (rowA (x.set k 0)).size) := by show _ = _; rw [rowA_size, HN.out]; kernel_rfl
      have HL := HR.out.law
      have HNul := hide HR.out.nul
      clear HR hwh
      have HC : (cn = true ∧ p = 0 ∧ wh = true) ∨ (cn = true ∧ p ≠ 0 ∧ wh = false) ∨ (cn = false ∧ wh = false) := by
        cases cn
        · right; right; exact ⟨rfl, by simpa using HL⟩
        · by_cases hp : p = 0
          · left; exact ⟨rfl, hp, by simpa [hp] using HL⟩
          · right; left; exact ⟨rfl, hp, by have e : (p == 0) = false := (by simpa using hp); rw [HL, e]; rfl⟩
      clear HL
      go_wp2_with (first
        | refine wpList_load_row rfl 22 _ rfl w.heap.size rfl 22 (rowA x) (0, 0) _ HA.out Try.underlying22 rfl HSZ.out ?_
        | refine wpList_store_new rfl 22 _ _ rfl (rowA x) rfl rfl 22 _ HSZ.out (by rw [rowA_size, hx.out]; rfl) (rowA_one x) ?_
        | refine wpList_load_row rfl 22 _ rfl wr.heap.size rfl 22 (rowA (x.set k 0)) (0, 0) _ (heap_alloc_new wr _) Try.underlying22 rfl HSY.out ?_)
      refine (isNil_at (x.set k 0) HN cn HNul _).mono ?_
      rintro e w2 ⟨rfl, hb⟩
      have HA2 : Hid (w2.heap[w.heap.size]? = some (.cells (rowA x) 22)) := (hb.block w.heap.size (by have := HZ.out; simp; omega)).trans ((Below.heap_alloc wr _ _ HZ.out).trans HA.out)
      have HB2 : Hid (Below w.heap.size w w2) := (HB.out.alloc (Nat.le_of_lt HZ.out) _).trans (hb.mono (by have := HZ.out; simp; omega))
      have HZ2 : Hid (w.heap.size < w2.heap.size) := by have := hb.size; have := HZ.out; simp at *; show _ < _; omega
      clear hb hset HSY HN
      go_wp2_with (refine wpList_load_row rfl 22 _ rfl w.heap.size rfl 22 (rowA x) (0, 0) _ HA2.out Try.underlying22 rfl HSZ.out ?_)
      refine (except_at x k hx cn HNul _).mono ?_
      rintro e w3 ⟨rfl, hb⟩
      have HA3 : Hid (w3.heap[w.heap.size]? = some (.cells (rowA x) 22)) := (hb.block w.heap.size HZ2.out).trans HA2.out
      have HB3 : Hid (Below w.heap.size w w3) := HB2.out.trans (hb.mono (Nat.le_of_lt HZ2.out))
      have HZ3 : Hid (w.heap.size < w3.heap.size) := Nat.lt_of_lt_of_le HZ2.out hb.size
      have hc3 : w3.cell? ⟨w.heap.size, k, none⟩ = some (.int .u8 (p : Int)) := by rw [cell_of_row _ _ _ _ _ (0, 0) HA3.out, c1]
      clear hb HA HB HZ HA2 HB2 HZ2 c1 HNul
      rcases HC with ⟨rfl, rfl, rfl⟩ | ⟨rfl, hp, rfl⟩ | ⟨rfl, rfl⟩
      · go_wp2_with fail
        go_roundw
        case rel => exact ⟨k + 1, by omega, by go_num, HA3, HB3, HZ3⟩
        case measure => simp [intOf]; omega
      · have hp2 : ((p : Int) == 0) = false := by simpa using hp
        go_wp2_with fail
        go_roundw
        case rel => exact ⟨k + 1, by omega, by go_num, HA3, HB3, HZ3⟩
        case measure => simp [intOf]; omega
      · go_wp2_with fail
        go_roundw
        case rel => exact ⟨k + 1, by omega, by go_num, HA3, HB3, HZ3⟩
        case measure => simp [intOf]; omega
    · go_wp2_with fail
      go_ret
      exact ⟨rfl, HB.out⟩
end Go.Proofs.Qxb6616883a.Law

/-
  FnAddressStringLeadsBlockIDString: the walk.
-/
import Derived.Test.Qxb6616883aStr
namespace Go.Proofs.Qxb6616883a.Law
open Go.RowKit Go.Lib

/-- What memory holds: the two arguments' boxes, and 'full' behind them, holding y. -/
structure Mem (w : World) (a t y : List UInt8) (W : World) : Prop where
  bel : Below w.heap.size w W
  ra : W.heap[w.heap.size]? = some (.cells (rowA a) 27)
  rt : W.heap[w.heap.size + 1]? = some (.cells (rowA t) 28)
  rf : W.heap[w.heap.size + 1 + 1]? = some (.cells (rowA y) 22)
  ly : y.length = 32
  lt : w.heap.size + 1 + 1 < W.heap.size

theorem Mem.start (w : World) (a t : List UInt8) : Mem w a t (List.replicate 32 0) (((w.alloc (.cells (rowA a) 27)).alloc (.cells (rowA t) 28)).alloc (.cells #[.int .u8 0, .int .u8 0, .int .u8 0, .int .u8 0, .int .u8 0, .int .u8 0, .int .u8 0, .int .u8 0, .int .u8 0, .int .u8 0, .int .u8 0, .int .u8 0, .int .u8 0, .int .u8 0, .int .u8 0, .int .u8 0, .int .u8 0, .int .u8 0, .int .u8 0, .int .u8 0, .int .u8 0, .int .u8 0, .int .u8 0, .int .u8 0, .int .u8 0, .int .u8 0, .int .u8 0, .int .u8 0, .int .u8 0, .int .u8 0, .int .u8 0, .int .u8 0] 22)) := by
  have e1 : (w.alloc (.cells (rowA a) 27)).heap.size = w.heap.size + 1 := by simp
  have e2 : ((w.alloc (.cells (rowA a) 27)).alloc (.cells (rowA t) 28)).heap.size = w.heap.size + 1 + 1 := by simp
  refine ⟨((((Below.refl _ w).alloc (Nat.le_refl _) _).alloc (by simp) _).alloc (by simp; omega) _), ?_, ?_, ?_, by simp, by simp⟩
  · rw [Below.heap_alloc _ _ _ (by rw [e2]; omega), Below.heap_alloc _ _ _ (by rw [e1]; omega)]
    exact heap_alloc_last w _
  · rw [Below.heap_alloc _ _ _ (by rw [e2]; omega), ← e1]
    exact heap_alloc_last _ _
  · rw [← e2, zero_row]
    exact heap_alloc_last _ _

theorem Mem.put {w : World} {a t y : List UInt8} {W : World} (h : Mem w a t y W) (k : Nat) (b : UInt8) : Mem w a t (y.set k b) (W.setCell ⟨w.heap.size + 1 + 1, k, none⟩ (.int .u8 (b.toNat : Int))) := by
  refine ⟨h.bel.setCell (by show w.heap.size ≤ w.heap.size + 1 + 1; omega) _, ?_, ?_, ?_, by rw [List.length_set]; exact h.ly, by simpa [World.setCell] using h.lt⟩
  · rw [heap_setCell_other _ _ _ _ (by show w.heap.size ≠ w.heap.size + 1 + 1; omega)]; exact h.ra
  · rw [heap_setCell_other _ _ _ _ (by show w.heap.size + 1 ≠ w.heap.size + 1 + 1; omega)]; exact h.rt
  · rw [heap_setCell_same _ _ _ _ _ _ h.rf, rowA_set y k b _ rfl]

theorem Mem.step {w : World} {a t y : List UInt8} {W W' : World} (h : Mem w a t y W) (hb : Below W.heap.size W W') : Mem w a t y W' :=
  ⟨h.bel.trans (hb.mono (by have := h.lt; omega)), (hb.block _ (by have := h.lt; omega)).trans h.ra, (hb.block _ (by have := h.lt; omega)).trans h.rt, (hb.block _ h.lt).trans h.rf, h.ly, Nat.lt_of_lt_of_le h.lt hb.size⟩

theorem whole (a t y : List UInt8) (ha : a.length = 20) (ht : t.length = 12) (hy : y.length = 32) (h1 : ∀ j, j < 20 → y[j]? = a[j]?) (h2 : ∀ j, j < 12 → y[20 + j]? = t[j]?) : y = a ++ t := by
  apply List.ext_getElem?
  intro i
  by_cases hi : i < 20
  · rw [h1 i hi, List.getElem?_append_left (by omega)]
  · rw [List.getElem?_append_right (by omega), ha]
    by_cases hi2 : i < 32
    · have := h2 (i - 20) (by omega)
      rwa [show 20 + (i - 20) = i by omega] at this
    · rw [List.getElem?_eq_none (by omega), List.getElem?_eq_none (by omega)]

theorem txt_size (l : List UInt8) : (txt l).size = 2 * l.length := by
  show (Hx.encode l).toArray.size = _
  rw [List.size_toArray, Hx.encode_length]
theorem txt_append (a t : List UInt8) : txt a ++ txt t = txt (a ++ t) := by
  apply ByteArray.ext
  rw [ByteArray.data_append]
  apply Array.toList_inj.1
  simp [txt, Hx.encode, List.flatMap_append]

set_option maxHeartbeats 1000000 in
theorem lead_any (a t : List UInt8) (z : Bool) (ha : Hid (a.length = 20)) (ht : Hid (t.length = 12)) (hz : Hid (zeroB (a ++ t) = z)) (w : World) :
    Calls Try.prog 4 #[.agg (rowA a), .agg (rowA t)] w fun e w' => e = .returned (.bool true) ∧ Below w.heap.size w w' := by
  have M0 := hide (Mem.start w a t)
  go_enter Try.func4, Try.ntmps4
  go_wp2_with fail
  go_loopw [6] (fun i wr => ∃ (k : Nat) (y : List UInt8), k ≤ 20 ∧ i = .int .i64 k ∧ Hid (Mem w a t y wr) ∧ Hid (∀ j, j < k → y[j]? = a[j]?)) (fun i _ => 20 - (RowKit.intOf i).toNat)
  case atStart => exact ⟨0, _, Nat.zero_le _, rfl, M0, fun _ h => by omega⟩
  case round =>
    clear M0
    obtain ⟨k, y, hk, rfl, HM, HY⟩ := hrel
    by_cases hlt : k < 20
    · have ka : k < a.length := by rw [ha.out]; exact hlt
      obtain ⟨b, hb⟩ : ∃ b : UInt8, a[k]? = some b := ⟨_, List.getElem?_eq_getElem ka⟩
      have c1 : wr.cell? ⟨w.heap.size, k, none⟩ = some (.int .u8 (b.toNat : Int)) := by
        rw [cell_of_row _ _ _ _ _ (0, 0) HM.out.ra, rowA_at a k ka]
        rw [List.getElem?_eq_getElem ka] at hb
        rw [Option.some.inj hb]
      obtain ⟨v, c2⟩ : ∃ v, wr.cell? ⟨w.heap.size + 1 + 1, k, none⟩ = some v := by
        rw [cell_of_row _ _ _ _ _ (0, 0) HM.out.rf]
        exact ⟨_, rowA_at y k (by rw [HM.out.ly]; omega)⟩
      have f2 : wr.frozen? ⟨w.heap.size + 1 + 1, k, none⟩ = false := frozen_of_row _ _ _ _ _ HM.out.rf
      have HM2 := hide (HM.out.put k b)
      have HY2 : Hid (∀ j, j < k + 1 → (y.set k b)[j]? = a[j]?) := fun j hj => by
        rw [List.getElem?_set]
        by_cases e : k = j
        · subst e; rw [if_pos rfl, if_pos (by rw [HM.out.ly]; omega), hb]
        · rw [if_neg e]; exact HY.out j (by omega)
      clear hb HM HY
      go_wp2_with fail
      go_roundw
      case rel => exact ⟨k + 1, _, by omega, by go_num, HM2, HY2⟩
      case measure => simp [RowKit.intOf]; omega
    · have HY20 : Hid (∀ j, j < 20 → y[j]? = a[j]?) := fun j hj => HY.out j (by omega)
      clear HY
      go_wp2_with fail
      go_loopw [7] (fun i wr => ∃ (m : Nat) (y : List UInt8), m ≤ 12 ∧ i = .int .i64 m ∧ Hid (Mem w a t y wr) ∧ Hid (∀ j, j < 20 → y[j]? = a[j]?) ∧ Hid (∀ j, j < m → y[20 + j]? = t[j]?)) (fun i _ => 12 - (RowKit.intOf i).toNat)
      case atStart => exact ⟨0, _, Nat.zero_le _, rfl, HM, HY20, fun _ h => by omega⟩
      case round =>
        clear HM HY20
        obtain ⟨m, y2, hm, rfl, HM, HY, HT⟩ := hrel
        by_cases hlt2 : m < 12
        · have kt : m < t.length := by rw [ht.out]; exact hlt2
          obtain ⟨b, hb⟩ : ∃ b : UInt8, t[m]? = some b := ⟨_, List.getElem?_eq_getElem kt⟩
          have c1 : wr.cell? ⟨w.heap.size + 1, m, none⟩ = some (.int .u8 (b.toNat : Int)) := by
            rw [cell_of_row _ _ _ _ _ (0, 0) HM.out.rt, rowA_at t m kt]
            rw [List.getElem?_eq_getElem kt] at hb
            rw [Option.some.inj hb]
          obtain ⟨v, c2⟩ : ∃ v, wr.cell? ⟨w.heap.size + 1 + 1, 20 + m, none⟩ = some v := by
            rw [cell_of_row _ _ _ _ _ (0, 0) HM.out.rf]
            exact ⟨_, rowA_at y2 (20 + m) (by rw [HM.out.ly]; omega)⟩
          have f2 : wr.frozen? ⟨w.heap.size + 1 + 1, 20 + m, none⟩ = false := frozen_of_row _ _ _ _ _ HM.out.rf
          have HM2 := hide (HM.out.put (20 + m) b)
          have HY2 : Hid (∀ j, j < 20 → (y2.set (20 + m) b)[j]? = a[j]?) := fun j hj => by
            rw [List.getElem?_set, if_neg (by omega)]; exact HY.out j hj
          have HT2 : Hid (∀ j, j < m + 1 → (y2.set (20 + m) b)[20 + j]? = t[j]?) := fun j hj => by
            rw [List.getElem?_set]
            by_cases e : m = j
            · subst e; rw [if_pos rfl, if_pos (by rw [HM.out.ly]; omega), hb]
            · rw [if_neg (by omega)]; exact HT.out j (by omega)
          clear hb HM HY HT
          go_wp2_with fail
          go_roundw
          case rel => exact ⟨m + 1, _, by omega, by go_num, HM2, HY2, HT2⟩
          case measure => simp [RowKit.intOf]; omega
        · obtain rfl := whole a t y2 ha.out ht.out HM.out.ly HY.out (fun j hj => HT.out j (by omega))
          have HS : Hid ((Try.prog.info? 27).map (·.size) = some (rowA a).size) := by show _ = _; rw [rowA_size, ha.out]; kernel_rfl
          clear HY HT
          go_wp2_with (refine wpList_load_row rfl 27 _ rfl w.heap.size rfl 27 (rowA a) (0, 0) _ HM.out.ra Try.underlying27 rfl HS.out ?_)
          refine (addr_any a ha _).mono ?_
          rintro e W1 ⟨rfl, hb⟩
          have H1 := hide (HM.out.step hb)
          clear hb HM
          go_wp2_with fail
          refine (hexOf_any w.heap.size 0 20 20 a _ (by omega) ha (by have := H1.out.lt; omega) (fun i h => by rw [cell_of_row _ _ _ _ _ (0, 0) H1.out.ra, Nat.zero_add, rowA_at a i h])).mono ?_
          rintro e W2 ⟨rfl, hb⟩
          have H2 := hide (H1.out.step hb)
          clear hb H1
          have HSF : Hid ((Try.prog.info? 22).map (·.size) = some (rowA (a ++ t)).size) := by show _ = _; rw [rowA_size, List.length_append, ha.out, ht.out]; kernel_rfl
          have HL : Hid ((a ++ t).length = 32) := by show _ = _; rw [List.length_append, ha.out, ht.out]
          go_wp2_with (refine wpList_load_row rfl 22 _ rfl (w.heap.size + 1 + 1) rfl 22 (rowA (a ++ t)) (0, 0) _ H2.out.rf Try.underlying22 rfl HSF.out ?_)
          cases z with
          | true =>
            refine (block_yes (a ++ t) HL hz _).mono ?_
            rintro e W3 ⟨rfl, hb⟩
            have H3 := hide (H2.out.step hb)
            clear hb H2
            go_wp2_with (refine wpList_load_row rfl 22 _ rfl (w.heap.size + 1 + 1) rfl 22 (rowA (a ++ t)) (0, 0) _ H3.out.rf Try.underlying22 rfl HSF.out ?_)
            refine (all_at (a ++ t) HL true hz _).mono ?_
            rintro e W4 ⟨rfl, hb⟩
            have H4 := hide (H3.out.step hb)
            clear hb H3
            go_wp2_with fail
            go_ret
            exact ⟨rfl, H4.out.bel⟩
          | false =>
            refine (block_no (a ++ t) HL hz _).mono ?_
            rintro e W3 ⟨rfl, hb⟩
            have H3 := hide (H2.out.step hb)
            clear hb H2
            go_wp2_with (refine wpList_load_row rfl 22 _ rfl (w.heap.size + 1 + 1) rfl 22 (rowA (a ++ t)) (0, 0) _ H3.out.rf Try.underlying22 rfl HSF.out ?_)
            refine (all_at (a ++ t) HL false hz _).mono ?_
            rintro e W4 ⟨rfl, hb⟩
            have H4 := hide (H3.out.step hb)
            clear hb H3
            go_wp2_with fail
            refine (hexOf_any (w.heap.size + 1) 0 12 12 t _ (by omega) ht (by have := H4.out.lt; omega) (fun i h => by rw [cell_of_row _ _ _ _ _ (0, 0) H4.out.rt, Nat.zero_add, rowA_at t i h])).mono ?_
            rintro e W5 ⟨rfl, hb⟩
            have H5 := hide (H4.out.step hb)
            clear hb H4
            have hsa : (txt a).size = 40 := by rw [txt_size, ha.out]
            have hst : (txt t).size = 24 := by rw [txt_size, ht.out]
            have hcat : txt a ++ txt t = txt (a ++ t) := txt_append a t
            go_wp2_with fail
            go_ret
            exact ⟨rfl, H5.out.bel⟩
end Go.Proofs.Qxb6616883a.Law

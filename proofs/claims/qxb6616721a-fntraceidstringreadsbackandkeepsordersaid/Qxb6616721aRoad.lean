import Derived.Test.Qxb6616721aArr
namespace Go.Proofs.Qxb6616721a.Law
open Go.RowKit Go.Lib

theorem hide {p : Prop} (h : p) : Hid p := h

/-! ### the text of the bytes, place by place -/
def txt (l : List UInt8) : ByteArray := ⟨(Hx.encode l).toArray⟩
theorem txt_size (l : List UInt8) : (txt l).size = 2 * l.length := by
  show (Hx.encode l).toArray.size = _
  rw [List.size_toArray, Hx.encode_length]
theorem txt_toList (l : List UInt8) : (txt l).data.toList = Hx.encode l := by simp [txt]
theorem txt_at (l : List UInt8) (k : Nat) (c : UInt8) (h : (Hx.encode l)[k]? = some c) (hk : k < (txt l).size) : (txt l)[k]'hk = c := by
  have h1 : (txt l).data.toList[k]? = some c := by rw [txt_toList]; exact h
  have h2 : (txt l).data[k]? = some c := by simpa using h1
  have hk' : k < (txt l).data.size := hk
  rw [Array.getElem?_eq_getElem hk'] at h2
  exact Option.some.inj h2
theorem txt_hi (l : List UInt8) (k : Nat) (h : k < l.length) (hk : 2 * k < (txt l).size) : ((txt l)[2 * k]'hk).toNat = dgN ((l[k]'h).toNat / 16) := by
  rw [txt_at l _ _ (Hx.encode_at l k _ (List.getElem?_eq_getElem h)).1 hk, digit_toNat _ (by have := (l[k]'h).toNat_lt; omega)]
theorem txt_lo (l : List UInt8) (k : Nat) (h : k < l.length) (hk : 2 * k + 1 < (txt l).size) : ((txt l)[2 * k + 1]'hk).toNat = dgN ((l[k]'h).toNat % 16) := by
  rw [txt_at l _ _ (Hx.encode_at l k _ (List.getElem?_eq_getElem h)).2 hk, digit_toNat _ (by omega)]
theorem txt_dig (l : List UInt8) (j : Nat) (hj : j < (txt l).size) : ∃ d : Nat, d < 16 ∧ ((txt l)[j]'hj).toNat = dgN d := by
  have hs := txt_size l
  have hl : j / 2 < l.length := by omega
  have hb := (l[j / 2]'hl).toNat_lt
  rcases Nat.mod_two_eq_zero_or_one j with h | h
  · have e : j = 2 * (j / 2) := by omega
    refine ⟨(l[j / 2]'hl).toNat / 16, by omega, ?_⟩
    rw [← txt_hi l (j / 2) hl (by omega)]
    congr 2
  · have e : j = 2 * (j / 2) + 1 := by omega
    refine ⟨(l[j / 2]'hl).toNat % 16, by omega, ?_⟩
    rw [← txt_lo l (j / 2) hl (by omega)]
    congr 2

theorem string_txt (bs : List UInt8) (hl : Hid (bs.length = 16)) (w : World) :
    Calls Try.prog 4 #[.agg (rowA bs)] w fun e w' => e = .returned (.string (txt bs)) ∧ Below w.heap.size w w' := string_any bs hl w

theorem wrap_two (k : Nat) (h : k < 16) : IntKind.i64.wrap (2 * (k : Int)) = ((2 * k : Nat) : Int) := by
  have t : (List.range 16).all (fun k => IntKind.i64.wrap (2 * (k : Int)) == ((2 * k : Nat) : Int)) = true := by kernel_rfl
  exact eq_of_beq (List.all_eq_true.1 t k (List.mem_range.2 h))

theorem wrap_one (k : Nat) (h : k ≤ 30) : IntKind.i64.wrap ((k : Int) + 1) = ((k + 1 : Nat) : Int) := by
  have t : (List.range 31).all (fun k => IntKind.i64.wrap ((k : Int) + 1) == ((k + 1 : Nat) : Int)) = true := by kernel_rfl
  exact eq_of_beq (List.all_eq_true.1 t k (List.mem_range.2 (by omega)))

set_option maxHeartbeats 1000000 in
theorem main_any (a b : List UInt8) (ha : Hid (a.length = 16)) (hb : Hid (b.length = 16)) (w : World) :
    Calls Try.prog 3 #[.agg (rowA a), .agg (rowA b)] w fun e w' => e = .returned (.bool true) ∧ Below w.heap.size w w' := by
  have hA := heap_alloc2_old w (.cells (rowA a) 22) (.cells (rowA b) 22)
  have hB := heap_alloc2_new w (.cells (rowA a) 22) (.cells (rowA b) 22)
  have hz : ((w.alloc (.cells (rowA a) 22)).alloc (.cells (rowA b) 22)).heap.size = w.heap.size + 2 := by simp
  have HW : Hid (Below w.heap.size w ((w.alloc (.cells (rowA a) 22)).alloc (.cells (rowA b) 22))) := bel2 w _ _
  have HC : Hid (cmpL (txt a).data.toList (txt b).data.toList = cmpL a b) := by
    show _ = _
    rw [txt_toList, txt_toList]
    exact cmpL_encode a b (by rw [ha.out, hb.out])
  have hsa : (txt a).size = 32 := by rw [txt_size, ha.out]
  have hsb : (txt b).size = 32 := by rw [txt_size, hb.out]
  have da : Hid (∀ k (h : k < (txt a).size), ∃ d : Nat, d < 16 ∧ ((txt a)[k]'h).toNat = dgN d) := txt_dig a
  have db : Hid (∀ k (h : k < (txt b).size), ∃ d : Nat, d < 16 ∧ ((txt b)[k]'h).toNat = dgN d) := txt_dig b
  have dr : Hid (∀ k (h : k < 16) (j j2 : Nat) (hj : 2 * k = j) (hj2 : j + 1 = j2) (h1 : j < (txt a).size) (h2 : j2 < (txt a).size), ∃ p q : Nat, p < 16 ∧ q < 16 ∧ (((txt a)[j]'h1).toNat : Int) = (dgN p : Int) ∧ (((txt a)[j2]'h2).toNat : Int) = (dgN q : Int) ∧ (rowA a)[k]? = some (.int .u8 ((16 * p + q : Nat) : Int))) := fun k h j j2 hj hj2 h1 h2 => by
    subst hj
    subst hj2
    have hk : k < a.length := by rw [ha.out]; exact h
    have hb := (a[k]'hk).toNat_lt
    refine ⟨(a[k]'hk).toNat / 16, (a[k]'hk).toNat % 16, by omega, by omega, by rw [txt_hi a k hk h1], by rw [txt_lo a k hk h2], ?_⟩
    rw [rowA_at a k hk]
    congr 2
    omega
  go_enter Try.func3, Try.ntmps3
  go_wp2_with (refine wpList_load_row rfl 22 _ rfl w.heap.size rfl 22 (rowA a) (0, 0) _ hA Try.underlying22 rfl (by rw [rowA_size, ha.out]; kernel_rfl) ?_)
  refine (string_txt a ha _).mono ?_
  rintro e w1 ⟨rfl, hb1⟩
  have hA1 := (hb1.block w.heap.size (by rw [hz]; omega)).trans hA
  have hB1 := (hb1.block (w.heap.size + 1) (by rw [hz]; omega)).trans hB
  have hz1 : w.heap.size + 2 ≤ w1.heap.size := by have := hb1.size; omega
  have HW1 : Hid (Below w.heap.size w w1) := HW.out.trans (hb1.mono (by omega))
  clear hb1 hA hB HW hz
  go_wp2_with (refine wpList_load_row rfl 22 _ rfl (w.heap.size + 1) rfl 22 (rowA b) (0, 0) _ hB1 Try.underlying22 rfl (by rw [rowA_size, hb.out]; kernel_rfl) ?_)
  refine (string_txt b hb _).mono ?_
  rintro e w2 ⟨rfl, hb2⟩
  have hA2 := (hb2.block w.heap.size (by omega)).trans hA1
  have hB2 := (hb2.block (w.heap.size + 1) (by omega)).trans hB1
  have hz2 : w.heap.size + 2 ≤ w2.heap.size := by have := hb2.size; omega
  have HW2 : Hid (Below w.heap.size w w2) := HW1.out.trans (hb2.mono (by omega))
  clear hb2 hA1 hB1 HW1 hz1
  generalize txt a = sa at *
  generalize txt b = sb at *
  go_wp2_with fail
  refine (low_any sa hsa da _).mono ?_
  rintro e w3 ⟨rfl, rfl⟩
  go_wp2_with fail
  refine (low_any sb hsb db _).mono ?_
  rintro e w4 ⟨rfl, rfl⟩
  clear da db
  go_wp2_with fail
  have HA2 : Hid (w4.heap[w.heap.size]? = some (.cells (rowA a) 22)) := hA2
  have HB2 : Hid (w4.heap[w.heap.size + 1]? = some (.cells (rowA b) 22)) := hB2
  clear hA2 hB2
  go_loopw [7] (fun i wr => ∃ k : Nat, k ≤ 16 ∧ i = .int .i64 k ∧ Hid (∃ n, wr = w4.drewN n)) (fun i _ => 16 - (RowKit.intOf i).toNat)
  case atStart => exact ⟨0, Nat.zero_le _, rfl, 0, rfl⟩
  case round =>
    obtain ⟨k, hk, rfl, HR⟩ := hrel
    have HAr : Hid (wr.heap[w.heap.size]? = some (.cells (rowA a) 22)) := by obtain ⟨n, e⟩ := HR.out; rw [e]; exact HA2.out
    have HBr : Hid (wr.heap[w.heap.size + 1]? = some (.cells (rowA b) 22)) := by obtain ⟨n, e⟩ := HR.out; rw [e]; exact HB2.out
    have HZr : Hid (wr.heap.size = w4.heap.size) := by obtain ⟨n, e⟩ := HR.out; rw [e]; rfl
    have HWr : Hid (Below w.heap.size w wr) := by obtain ⟨n, e⟩ := HR.out; rw [e]; exact bel HW2.out n
    by_cases hlt : k < 16
    · obtain ⟨j, hj⟩ : ∃ j : Nat, 2 * k = j := ⟨_, rfl⟩
      have hm : IntKind.i64.wrap (2 * (k : Int)) = (j : Int) := by rw [← hj]; exact wrap_two k hlt
      have hj31 : j ≤ 30 := by omega
      have hj1 : j < sa.size := by omega
      have hji : (j : Int) < 32 := by omega
      obtain ⟨j2, hjj⟩ : ∃ j2 : Nat, j + 1 = j2 := ⟨_, rfl⟩
      have hm2 : IntKind.i64.wrap ((j : Int) + 1) = (j2 : Int) := by rw [← hjj]; exact wrap_one j hj31
      have hji2 : (j2 : Int) < 32 := by omega
      have hj2 : j2 < sa.size := by omega
      obtain ⟨p, q, hp, hq, e1, e2, e3⟩ := dr.out k hlt j j2 hj hjj hj1 hj2
      have hcell : wr.cell? ⟨w.heap.size, k, none⟩ = some (.int .u8 ((16 * p + q : Nat) : Int)) := by rw [cell_of_row _ _ _ _ _ (0, 0) HAr.out, e3]
      clear e3
      have E1 := hide e1
      have E2 := hide e2
      clear e1 e2
      clear hj hjj
      go_wp2_with fail
      go_quiet ((go_at_call 6; exact Calls.quiet_of_same (hb_any _ _ p q hp hq E1 E2 _)))
      go_wp2_with fail
      go_roundw
      case rel => exact ⟨k + 1, by omega, by go_num, by obtain ⟨n, e⟩ := HR.out; rw [e]; exact ⟨_, World.drewN_drewN ..⟩⟩
      case measure => simp [RowKit.intOf]; omega
    · go_wp2_with (first | (refine wpList_load_row rfl 22 _ rfl w.heap.size rfl 22 (rowA a) (0, 0) _ HAr.out Try.underlying22 rfl (by rw [rowA_size, ha.out]; kernel_rfl) ?_) | (refine wpList_load_row rfl 22 _ rfl (w.heap.size + 1) rfl 22 (rowA b) (0, 0) _ HBr.out Try.underlying22 rfl (by rw [rowA_size, hb.out]; kernel_rfl) ?_))
      refine (ids_any a b ha hb _).mono ?_
      rintro e w5 ⟨rfl, hb5⟩
      have HW5 : Hid (Below w.heap.size w w5) := HWr.out.trans (hb5.mono (by rw [HZr.out]; omega))
      clear hb5
      go_wp2_with fail
      refine (texts_any sa sb hsa hsb _).mono ?_
      rintro e w6 ⟨rfl, m, rfl⟩
      rw [HC.out]
      go_wp2_with fail
      go_ret
      exact ⟨rfl, bel HW5.out m⟩
end Go.Proofs.Qxb6616721a.Law

import Derived.Test.Qxb6616825aStruct
import Derived.Deep.RegionWith
namespace Go.Proofs.Qxb6616825a.Law
open Go.RowKit

theorem hide {p : Prop} (h : p) : Hid p := h

set_option maxHeartbeats 400000 in
theorem add_big (a : Int) (x : Option Addr) (n c : Nat) (k : Int) (w : World) (hn : ¬ n ≤ 1048576) (hc : n ≤ 9223372036854775807) :
    Calls Try.prog 3 #[.int .i64 a, .slice x n c, .int .i64 k] w fun e w' => e = .returned (.bool true) ∧ Below w.heap.size w w' := by
  go_enter Try.func3, Try.ntmps3
  go_wp2_with fail
  refine (bytes_no a x n c k _ hn hc).mono ?_
  rintro e w1 ⟨rfl, rfl⟩
  go_wp2_with fail
  go_ret
  exact ⟨rfl, Below.refl _ _⟩

set_option maxHeartbeats 400000 in
theorem add_out (a : Int) (x : Option Addr) (n c : Nat) (k : Int) (w : World) (hn : n ≤ 1048576) (hk : k < 0 ∨ (n : Int) < k) :
    Calls Try.prog 3 #[.int .i64 a, .slice x n c, .int .i64 k] w fun e w' => e = .returned (.bool true) ∧ Below w.heap.size w w' := by
  rcases hk with hk | hk
  · go_enter Try.func3, Try.ntmps3
    go_wp2_with fail
    refine (bytes_yes a x n c k _ hn).mono ?_
    rintro e w1 ⟨rfl, rfl⟩
    go_wp2_with fail
    go_ret
    exact ⟨rfl, Below.refl _ _⟩
  · have hk0 : ¬ k < 0 := by omega
    go_enter Try.func3, Try.ntmps3
    go_wp2_with fail
    refine (bytes_yes a x n c k _ hn).mono ?_
    rintro e w1 ⟨rfl, rfl⟩
    go_wp2_with fail
    go_ret
    exact ⟨rfl, Below.refl _ _⟩

theorem slice_from (b n k : Nat) (hk : k ≤ n) : ∃ o : Nat, (k < n → o = k) ∧ ∀ w : World, (Instr.slice 22 (.slice (some ⟨b, 0, none⟩) n n) (some (.int .i64 (k : Int))) none none).run Try.prog w = .ok (.slice (some ⟨b, o, none⟩) (n - k) (n - k)) w := by
  have h22 : Try.prog.underlying 22 = some (.slice (Try.prog.elem 22)) := by rw [Try.underlying22]; kernel_rfl
  by_cases h : n = k
  · refine ⟨0, fun hlt => by omega, fun w => ?_⟩
    rw [run_slice_l (P := Try.prog) w 22 (some ⟨b, 0, none⟩) n n h22 .i64 (k : Int) (by omega) (by omega)]
    have e4 : Try.prog.elem 22 = 4 := by kernel_rfl
    rw [e4, Try.sizeOf4]
    simp [sliced, Result.andThen, h]
  · refine ⟨k, fun hlt => rfl, fun w => ?_⟩
    rw [run_slice_l (P := Try.prog) w 22 (some ⟨b, 0, none⟩) n n h22 .i64 (k : Int) (by omega) (by omega)]
    have e4 : Try.prog.elem 22 = 4 := by kernel_rfl
    rw [e4, Try.sizeOf4]
    simp [sliced, Result.andThen, h, Addr.add]
    omega

theorem fB_take (bs : List Bool) (k i : Nat) (h : i < k) : fB bs i = fB (bs.take k) i := by
  unfold fB
  rw [List.getD_eq_getElem?_getD, List.getD_eq_getElem?_getD, List.getElem?_take_of_lt h]
theorem fB_drop (bs : List Bool) (k i : Nat) : fB bs (k + i) = fB (bs.drop k) i := by
  unfold fB
  rw [List.getD_eq_getElem?_getD, List.getD_eq_getElem?_getD, List.getElem?_drop]

/-- What the four clones hold, in every later world. -/
structure Env (w0 : World) (b1 b2 b3 b4 n k : Nat) (bs : List Bool) (W : World) : Prop where
  bel : Below w0.heap.size w0 W
  r1 : W.rowIs b1 4 n (fB bs)
  r2 : W.rowIs b2 4 n (fB bs)
  r3 : W.rowIs b3 4 k (fB (bs.take k))
  r4 : W.rowIs b4 4 (n - k) (fB (bs.drop k))

theorem Env.step {w0 : World} {b1 b2 b3 b4 n k : Nat} {bs : List Bool} {W W' : World} (h : Env w0 b1 b2 b3 b4 n k bs W) (hb : Below W.heap.size W W') : Env w0 b1 b2 b3 b4 n k bs W' :=
  ⟨h.bel.trans (hb.mono h.bel.size), h.r1.of_block (hb.block _ h.r1.lt), h.r2.of_block (hb.block _ h.r2.lt), h.r3.of_block (hb.block _ h.r3.lt), h.r4.of_block (hb.block _ h.r4.lt)⟩

theorem row_later {W W' : World} {b n : Nat} {f : Nat → Value} (h : W.rowIs b 4 n f) (hb : Below W.heap.size W W') : ∀ i, i < n → W'.cell? ⟨b, 0 + i, none⟩ = some (f i) := fun i hi => by
  rw [Nat.zero_add]
  exact (h.of_block (hb.block _ h.lt)).cell hi

theorem cnt_of {W : World} {b n c : Nat} {bs : List Bool} {m : Int} (h : W.rowIs b 4 n (fB bs)) (hn : n ≤ 1048576) (hl : bs.length = n) (hm : (cnt bs : Int) = m) :
    ∀ W', Below W.heap.size W W' → Calls Try.prog 19 #[.slice (some ⟨b, 0, none⟩) n c] W' fun e w' => e = .returned (.int .i64 m) ∧ w' = W' := fun W' hb => by
  subst hm
  exact count_any b 0 n c bs W' hn hl (row_later h hb)

/-- A progress in memory. -/
structure St (W : World) (p : Nat) (a : Int) (x : Option Addr) (n c : Nat) (m : Int) : Prop where
  c0 : W.cell? ⟨p, 0, none⟩ = some (.int .i64 a)
  c1 : W.cell? ⟨p, 1, none⟩ = some (.slice x n c)
  c2 : W.cell? ⟨p, 2, none⟩ = some (.int .i64 m)
  lt : p < W.heap.size
theorem St.new (w : World) (a : Int) (x : Option Addr) (n c : Nat) (m : Int) : St (w.alloc (.cells #[.int .i64 a, .slice x n c, .int .i64 m] 26)) w.heap.size a x n c m := by
  have h := heap_alloc_new w (.cells #[.int .i64 a, .slice x n c, .int .i64 m] 26)
  exact ⟨by rw [cell_of_row _ _ _ _ _ (0, 0) h]; rfl, by rw [cell_of_row _ _ _ _ _ (0, 0) h]; rfl, by rw [cell_of_row _ _ _ _ _ (0, 0) h]; rfl, by simp⟩
theorem St.step {W W' : World} {p : Nat} {a : Int} {x : Option Addr} {n c : Nat} {m : Int} (h : St W p a x n c m) (hb : Below W.heap.size W W') : St W' p a x n c m :=
  ⟨(hb.cell (p := ⟨p, 0, none⟩) h.lt).trans h.c0, (hb.cell (p := ⟨p, 1, none⟩) h.lt).trans h.c1, (hb.cell (p := ⟨p, 2, none⟩) h.lt).trans h.c2, Nat.lt_of_lt_of_le h.lt hb.size⟩

/-- All that is known of memory behind the three progresses. -/
structure All (w0 : World) (b1 b2 b3 b4 n k : Nat) (bs : List Bool) (p1 p2 p3 : Nat) (a rn : Int) (cl cr : Nat) (W : World) : Prop where
  env : Env w0 b1 b2 b3 b4 n k bs W
  s1 : St W p1 a (some ⟨b1, 0, none⟩) n n ((cl : Int) + (cr : Int))
  s2 : St W p2 a (some ⟨b3, 0, none⟩) k k (cl : Int)
  s3 : St W p3 rn (some ⟨b4, 0, none⟩) (n - k) (n - k) (cr : Int)
theorem All.step {w0 : World} {b1 b2 b3 b4 n k : Nat} {bs : List Bool} {p1 p2 p3 : Nat} {a rn : Int} {cl cr : Nat} {W W' : World} (h : All w0 b1 b2 b3 b4 n k bs p1 p2 p3 a rn cl cr W) (hb : Below W.heap.size W W') :
    All w0 b1 b2 b3 b4 n k bs p1 p2 p3 a rn cl cr W' := ⟨h.env.step hb, h.s1.step hb, h.s2.step hb, h.s3.step hb⟩

theorem ahead10b (a : Int) (x : Option Addr) (n c : Nat) (m : Int) (w : World) :
    Calls Try.prog 10 #[.agg #[.int .i64 a, .slice x n c, .int .i64 m]] w fun e w' => e = .returned (.int .i64 m) ∧ Below w.heap.size w w' :=
  (ahead10 a x n c m w).mono fun _ _ ⟨h1, h2⟩ => ⟨h1, by rw [h2]; exact (Below.refl _ _).alloc (Nat.le_refl _) _⟩
theorem next11b (a : Int) (x : Option Addr) (n c : Nat) (m : Int) (w : World) :
    Calls Try.prog 11 #[.agg #[.int .i64 a, .slice x n c, .int .i64 m]] w fun e w' => e = .returned (.int .i64 a) ∧ Below w.heap.size w w' :=
  (next11 a x n c m w).mono fun _ _ ⟨h1, h2⟩ => ⟨h1, by rw [h2]; exact (Below.refl _ _).alloc (Nat.le_refl _) _⟩
theorem acked13b (a : Int) (x : Option Addr) (n c : Nat) (m : Int) (w : World) :
    Calls Try.prog 13 #[.agg #[.int .i64 a, .slice x n c, .int .i64 m]] w fun e w' => e = .returned (.slice x n c) ∧ Below w.heap.size w w' :=
  (acked13 a x n c m w).mono fun _ _ ⟨h1, h2⟩ => ⟨h1, by rw [h2]; exact (Below.refl _ _).alloc (Nat.le_refl _) _⟩

theorem bel {B : Nat} {a w : World} (h : Below B a w) (n : Nat) : Below B a (w.drewN n) := h.trans ⟨rfl, rfl, rfl, Nat.le_refl _, fun _ _ => rfl⟩
theorem below_q {W W' : World} (h : ∃ q, W' = W.drewN q) : Below W.heap.size W W' := by
  obtain ⟨q, rfl⟩ := h
  exact ⟨rfl, rfl, rfl, Nat.le_refl _, fun _ _ => rfl⟩
theorem row_later_take {W W' : World} {b n k : Nat} {bs : List Bool} (h : W.rowIs b 4 n (fB bs)) (hk : k ≤ n) (hb : Below W.heap.size W W') : ∀ i, i < k → W'.cell? ⟨b, 0 + i, none⟩ = some (fB (bs.take k) i) := fun i hi => by
  rw [row_later h hb i (by omega), fB_take bs k i hi]
theorem row_later_drop {W W' : World} {b n k o : Nat} {bs : List Bool} (h : W.rowIs b 4 n (fB bs)) (ho : k < n → o = k) (hb : Below W.heap.size W W') : ∀ i, i < n - k → W'.cell? ⟨b, o + i, none⟩ = some (fB (bs.drop k) i) := fun i hi => by
  have := row_later h hb (k + i) (by omega)
  rw [Nat.zero_add] at this
  rw [ho (by omega), this, fB_drop]

theorem cnt_cut (bs : List Bool) (k : Nat) : cnt bs = cnt (bs.take k) + cnt (bs.drop k) := by
  unfold cnt
  rw [← List.count_append, List.take_append_drop]

set_option maxHeartbeats 1000000 in
theorem add_some (a : Int) (x : Addr) (n c k : Nat) (bs : List Bool) (w : World) (hn : n ≤ 1048576) (hk : k ≤ n) (hl : Hid (bs.length = n)) (hcell : Hid (∀ i, i < n → w.cell? (x.add i) = some (fB bs i))) :
    Calls Try.prog 3 #[.int .i64 a, .slice (some x) n c, .int .i64 k] w fun e w' => e = .returned (.bool true) ∧ Below w.heap.size w w' := by
  go_enter Try.func3, Try.ntmps3
  go_wp2_with fail
  refine (bytes_yes a (some x) n c k _ hn).mono ?_
  rintro e w0 ⟨rfl, rfl⟩
  obtain ⟨o, ho, hsl⟩ := slice_from w0.heap.size n k hk
  have HO := hide ho
  clear ho
  go_wp2_with fail
  refine (clone_any x n c bs _ hn hcell.out).mono ?_
  rintro e w1 ⟨rfl, R1, hb1⟩
  have HR1 := hide R1
  have HB1 := hide hb1
  have L1 := R1.lt
  clear R1 hb1 hcell
  go_wp2_with fail
  refine (clone_at w0.heap.size 0 n n bs _ hn (fun i hi => by rw [Nat.zero_add]; exact HR1.out.cell hi) (fun _ => L1)).mono ?_
  rintro e w2 ⟨rfl, R2, hb2⟩
  have HR2 := hide R2
  have HR1' := hide (HR1.out.of_block (hb2.block _ L1))
  have HB2 := hide (HB1.out.trans (hb2.mono (by omega)))
  have L2 := R2.lt
  have L12 : w1.heap.size ≤ w2.heap.size := hb2.size
  clear R2 hb2 HR1 HB1
  go_wp2_with fail
  refine (clone_at w0.heap.size 0 k n (bs.take k) _ (by omega) (fun i hi => by rw [Nat.zero_add, HR1'.out.cell (by omega), fB_take bs k i hi]) (fun _ => by omega)).mono ?_
  rintro e w3 ⟨rfl, R3, hb3⟩
  have HR3 := hide R3
  have HR1 := hide (HR1'.out.of_block (hb3.block _ (by omega)))
  have HR2' := hide (HR2.out.of_block (hb3.block _ (by omega)))
  have HB3 := hide (HB2.out.trans (hb3.mono (by omega)))
  have L3 := R3.lt
  have L23 : w2.heap.size ≤ w3.heap.size := hb3.size
  clear R3 hb3 HR1' HB2 HR2
  go_wp2_with fail
  refine (clone_at w0.heap.size o (n - k) (n - k) (bs.drop k) _ (by omega) (fun i hi => by rw [HO.out (by omega), HR1.out.cell (by omega), fB_drop bs k i]) (fun _ => by omega)).mono ?_
  rintro e w4 ⟨rfl, R4, hb4⟩
  have HR4 := hide R4
  have HR1' := hide (HR1.out.of_block (hb4.block _ (by omega)))
  have HR2 := hide (HR2'.out.of_block (hb4.block _ (by omega)))
  have HR3' := hide (HR3.out.of_block (hb4.block _ (by omega)))
  have HB4 := hide (HB3.out.trans (hb4.mono (by omega)))
  have L4 := R4.lt
  have L34 : w3.heap.size ≤ w4.heap.size := hb4.size
  clear R4 hb4 HR1 HB3 HR2' HR3
  have E4 : Hid (Env w0 w0.heap.size w1.heap.size w2.heap.size w3.heap.size n k bs w4) := ⟨HB4.out, HR1'.out, HR2.out, HR3'.out, HR4.out⟩
  clear HR1' HR2 HR3' HR4 HB4 HO hsl
  have NT : Hid ((bs.take k).length = k) := by show _ = _; rw [List.length_take, hl.out]; omega
  have ND : Hid ((bs.drop k).length = n - k) := by show _ = _; rw [List.length_drop, hl.out]
  obtain ⟨cl, hcl⟩ : ∃ m : Nat, cnt (bs.take k) = m := ⟨_, rfl⟩
  obtain ⟨cr, hcr⟩ : ∃ m : Nat, cnt (bs.drop k) = m := ⟨_, rfl⟩
  have lcl : cl ≤ k := by have := cnt_le (bs.take k); rw [NT.out] at this; omega
  have lcr : cr ≤ n - k := by have := cnt_le (bs.drop k); rw [ND.out] at this; omega
  have CA : Hid ((cnt bs : Int) = (cl : Int) + (cr : Int)) := by show _ = _; rw [cnt_cut bs k, hcl, hcr]; omega
  have CL : Hid ((cnt (bs.take k) : Int) = (cl : Int)) := by show _ = _; rw [hcl]
  have CR : Hid ((cnt (bs.drop k) : Int) = (cr : Int)) := by show _ = _; rw [hcr]
  clear hcl hcr
  go_wp2_with fail
  refine (new9 a _ n n ((cl : Int) + (cr : Int)) _ (cnt_of E4.out.r1 hn hl.out CA.out)).mono ?_
  rintro e w5 ⟨rfl, hb5⟩
  have E5 := hide (E4.out.step (hb5.trans ((Below.refl _ w5).alloc hb5.size (.cells #[.int .i64 a, .slice (some ⟨w0.heap.size, 0, none⟩) n n, .int .i64 ((cl : Int) + (cr : Int))] 26))))
  have S1 := hide (St.new w5 a (some ⟨w0.heap.size, 0, none⟩) n n ((cl : Int) + (cr : Int)))
  clear hb5 E4
  go_wp2_with fail
  refine (new9 a _ k k (cl : Int) _ (cnt_of E5.out.r3 (by omega) NT.out CL.out)).mono ?_
  rintro e w6 ⟨rfl, hb6⟩
  have hb6' := hb6.trans ((Below.refl _ w6).alloc hb6.size (.cells #[.int .i64 a, .slice (some ⟨w2.heap.size, 0, none⟩) k k, .int .i64 (cl : Int)] 26))
  have E6 := hide (E5.out.step hb6')
  have S1' := hide (S1.out.step hb6')
  have S2 := hide (St.new w6 a (some ⟨w2.heap.size, 0, none⟩) k k (cl : Int))
  clear hb6 hb6' E5 S1
  go_wp2_with fail
  generalize wrap64 (a + (k : Int)) = rn
  refine (new9 rn _ (n - k) (n - k) (cr : Int) _ (cnt_of E6.out.r4 (by omega) ND.out CR.out)).mono ?_
  rintro e w7 ⟨rfl, hb7⟩
  have hb7' := hb7.trans ((Below.refl _ w7).alloc hb7.size (.cells #[.int .i64 rn, .slice (some ⟨w3.heap.size, 0, none⟩) (n - k) (n - k), .int .i64 (cr : Int)] 26))
  have E7 := hide (E6.out.step hb7')
  have S1 := hide (S1'.out.step hb7')
  have S2' := hide (S2.out.step hb7')
  have S3 := hide (St.new w7 rn (some ⟨w3.heap.size, 0, none⟩) (n - k) (n - k) (cr : Int))
  clear hb7 hb7' E6 S1' S2 CA CL CR NT ND
  have H7 : Hid (All w0 w0.heap.size w1.heap.size w2.heap.size w3.heap.size n k bs w5.heap.size w6.heap.size w7.heap.size a rn cl cr _) := ⟨E7.out, S1.out, S2'.out, S3.out⟩
  clear E7 S1 S2' S3
  obtain ⟨c0, c1, c2, _⟩ := H7.out.s1
  go_wp2_with fail
  refine (ahead10b _ _ _ _ _ _).mono ?_
  rintro e W1 ⟨rfl, hb⟩
  have H8 := hide (H7.out.step hb)
  clear hb c0 c1 c2 H7
  clear L1 L2 L12 L3 L23 L4 L34
  generalize w7.heap.size = p3 at H8 ⊢
  generalize w6.heap.size = p2 at H8 ⊢
  generalize w5.heap.size = p1 at H8 ⊢
  generalize w3.heap.size = b4 at H8 ⊢
  generalize w2.heap.size = b3 at H8 ⊢
  generalize w1.heap.size = b2 at H8 ⊢
  obtain ⟨c0, c1, c2, _⟩ := H8.out.s2
  go_wp2_with fail
  refine (ahead10b _ _ _ _ _ _).mono ?_
  rintro e W2 ⟨rfl, hb⟩
  have H9 := hide (H8.out.step hb)
  clear hb c0 c1 c2 H8
  obtain ⟨c0, c1, c2, _⟩ := H9.out.s3
  go_wp2_with fail
  refine (ahead10b _ _ _ _ _ _).mono ?_
  rintro e W3 ⟨rfl, hb⟩
  have H10 := hide (H9.out.step hb)
  clear hb c0 c1 c2 H9
  obtain ⟨c0, c1, c2, _⟩ := H10.out.s1
  go_wp2_with fail
  refine (next11b _ _ _ _ _ _).mono ?_
  rintro e W4 ⟨rfl, hb⟩
  have H11 := hide (H10.out.step hb)
  clear hb c0 c1 c2 H10
  obtain ⟨c0, c1, c2, _⟩ := H11.out.s2
  go_wp2_with fail
  refine (next11b _ _ _ _ _ _).mono ?_
  rintro e W5 ⟨rfl, hb⟩
  have H12 := hide (H11.out.step hb)
  clear hb c0 c1 c2 H11
  obtain ⟨c0, c1, c2, _⟩ := H12.out.s3
  go_wp2_with fail
  refine (next11b _ _ _ _ _ _).mono ?_
  rintro e W6 ⟨rfl, hb⟩
  have H13 := hide (H12.out.step hb)
  clear hb c0 c1 c2 H12
  obtain ⟨c0, c1, c2, _⟩ := H13.out.s1
  go_wp2_with fail
  refine (acked13b _ _ _ _ _ _).mono ?_
  rintro e W7 ⟨rfl, hb⟩
  have H14 := hide (H13.out.step hb)
  clear hb c0 c1 c2 H13
  go_wp2_with fail
  refine (same_any w0.heap.size 0 n b2 0 n n bs _ hn (row_later H14.out.env.r1 (Below.refl _ _)) (row_later H14.out.env.r2 (Below.refl _ _))).mono ?_
  rintro e W8 ⟨rfl, hq⟩
  have H15 := hide (H14.out.step (below_q hq))
  clear hq H14
  obtain ⟨c0, c1, c2, clt⟩ := H15.out.s2
  obtain ⟨d0, d1, d2, dlt⟩ := H15.out.s3
  go_wp2_with fail
  go_region_with (first | (go_at_call 13; refine (acked13 _ _ _ _ _ _).mono ?_; rintro e W9 ⟨rfl, rfl⟩) | (go_at_call 12; refine (same_any b3 0 k b2 0 n k (bs.take k) _ (by omega) (row_later H15.out.env.r3 (by repeat (first | exact Below.refl _ _ | apply Below.drew | refine Below.alloc ?_ (by simp) _))) (row_later_take H15.out.env.r2 hk (by repeat (first | exact Below.refl _ _ | apply Below.drew | refine Below.alloc ?_ (by simp) _)))).mono ?_; rintro e W9 ⟨rfl, hq⟩))
  have hb : Below W8.heap.size W8 W9 := by
    obtain ⟨q, e⟩ := hq
    rw [e]
    exact bel (Below.drew ((Below.refl _ W8).alloc (Nat.le_refl _) _)) q
  have H16 := hide (H15.out.step hb)
  clear hb hq c0 c1 c2 clt d0 d1 d2 dlt H15
  obtain ⟨o2, ho2, hsl2⟩ := slice_from b2 n k hk
  have HO2 := hide ho2
  clear ho2
  obtain ⟨d0, d1, d2, dlt⟩ := H16.out.s3
  go_wp2_with fail
  go_region_with (first | (go_at_call 13; refine (acked13 _ _ _ _ _ _).mono ?_; rintro e W10 ⟨rfl, rfl⟩) | (go_at_call 12; refine (same_any b4 0 (n - k) b2 o2 (n - k) (n - k) (bs.drop k) _ (by omega) (row_later H16.out.env.r4 (by repeat (first | exact Below.refl _ _ | apply Below.drew | refine Below.alloc ?_ (by simp) _))) (row_later_drop H16.out.env.r2 HO2.out (by repeat (first | exact Below.refl _ _ | apply Below.drew | refine Below.alloc ?_ (by simp) _)))).mono ?_; rintro e W10 ⟨rfl, hq⟩))
  have hb : Below W9.heap.size W9 W10 := by
    obtain ⟨q, e⟩ := hq
    rw [e]
    exact bel (Below.drew ((Below.refl _ W9).alloc (Nat.le_refl _) _)) q
  have H17 := hide (H16.out.step hb)
  clear hb hq d0 d1 d2 dlt H16 hsl2 HO2
  go_wp2_with fail
  refine (same_any w0.heap.size 0 n b2 0 n n bs _ hn (row_later H17.out.env.r1 (Below.refl _ _)) (row_later H17.out.env.r2 (Below.refl _ _))).mono ?_
  rintro e W11 ⟨rfl, hq⟩
  have H18 := hide (H17.out.step (below_q hq))
  clear hq H17
  go_wp2_with fail
  go_ret
  exact ⟨rfl, H18.out.env.bel⟩
end Go.Proofs.Qxb6616825a.Law

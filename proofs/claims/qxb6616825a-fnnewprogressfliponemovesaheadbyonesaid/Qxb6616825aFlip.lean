import Derived.Test.Qxb6616825aAdd
namespace Go.Proofs.Qxb6616825a.Law
open Go.RowKit

set_option maxHeartbeats 400000 in
theorem flip_big (a : Int) (x : Option Addr) (n c : Nat) (k : Int) (w : World) (hn : ¬ n ≤ 1048576) (hc : n ≤ 9223372036854775807) :
    Calls Try.prog 4 #[.int .i64 a, .slice x n c, .int .i64 k] w fun e w' => e = .returned (.bool true) ∧ Below w.heap.size w w' := by
  go_enter Try.func4, Try.ntmps4
  go_wp2_with fail
  refine (bytes2_no a x n c k _ hn hc).mono ?_
  rintro e w1 ⟨rfl, rfl⟩
  go_wp2_with fail
  go_ret
  exact ⟨rfl, Below.refl _ _⟩

set_option maxHeartbeats 400000 in
theorem flip_out (a : Int) (x : Option Addr) (n c : Nat) (k : Int) (w : World) (hn : n ≤ 1048576) (hk : k < 0 ∨ (n : Int) ≤ k) :
    Calls Try.prog 4 #[.int .i64 a, .slice x n c, .int .i64 k] w fun e w' => e = .returned (.bool true) ∧ Below w.heap.size w w' := by
  rcases hk with hk | hk
  · go_enter Try.func4, Try.ntmps4
    go_wp2_with fail
    refine (bytes2_yes a x n c k _ hn).mono ?_
    rintro e w1 ⟨rfl, rfl⟩
    go_wp2_with fail
    go_ret
    exact ⟨rfl, Below.refl _ _⟩
  · have hk0 : ¬ k < 0 := by omega
    go_enter Try.func4, Try.ntmps4
    go_wp2_with fail
    refine (bytes2_yes a x n c k _ hn).mono ?_
    rintro e w1 ⟨rfl, rfl⟩
    go_wp2_with fail
    go_ret
    exact ⟨rfl, Below.refl _ _⟩

/-! ### the plain law -/
theorem fB_set (bs : List Bool) (i j : Nat) (v : Bool) (hi : i < bs.length) : (if j = i then Value.bool v else fB bs j) = fB (bs.set i v) j := by
  unfold fB
  rw [List.getD_eq_getElem?_getD, List.getD_eq_getElem?_getD, List.getElem?_set]
  by_cases h : j = i
  · subst h
    rw [if_pos rfl, if_pos rfl, if_pos hi]
    rfl
  · rw [if_neg h, if_neg (fun e => h e.symm)]

theorem cnt_set : ∀ (bs : List Bool) (i : Nat), i < bs.length → (bs.getD i false = true → cnt bs = cnt (bs.set i false) + 1) ∧ (bs.getD i false = false → cnt (bs.set i true) = cnt bs + 1)
  | [], i, h => by simp at h
  | b :: t, 0, _ => by cases b <;> simp [cnt]
  | b :: t, i + 1, h => by
    have ih := cnt_set t i (by simpa using h)
    unfold cnt at ih ⊢
    simp only [List.getD_cons_succ, List.set_cons_succ, List.count_cons]
    exact ⟨fun e => by have := ih.1 e; omega, fun e => by have := ih.2 e; omega⟩

/-- What the four clones hold, in every later world. -/
structure EnvF (w0 : World) (b1 b2 b3 b4 n : Nat) (bs cs : List Bool) (W : World) : Prop where
  bel : Below w0.heap.size w0 W
  r1 : W.rowIs b1 4 n (fB bs)
  r2 : W.rowIs b2 4 n (fB cs)
  r3 : W.rowIs b3 4 n (fB bs)
  r4 : W.rowIs b4 4 n (fB cs)
theorem EnvF.step {w0 : World} {b1 b2 b3 b4 n : Nat} {bs cs : List Bool} {W W' : World} (h : EnvF w0 b1 b2 b3 b4 n bs cs W) (hb : Below W.heap.size W W') : EnvF w0 b1 b2 b3 b4 n bs cs W' :=
  ⟨h.bel.trans (hb.mono h.bel.size), h.r1.of_block (hb.block _ h.r1.lt), h.r2.of_block (hb.block _ h.r2.lt), h.r3.of_block (hb.block _ h.r3.lt), h.r4.of_block (hb.block _ h.r4.lt)⟩
/-- All that is known of memory behind the two progresses. -/
structure AllF (w0 : World) (b1 b2 b3 b4 n : Nat) (bs cs : List Bool) (p1 p2 : Nat) (a : Int) (m1 m2 : Int) (W : World) : Prop where
  env : EnvF w0 b1 b2 b3 b4 n bs cs W
  s1 : St W p1 a (some ⟨b1, 0, none⟩) n n m1
  s2 : St W p2 a (some ⟨b2, 0, none⟩) n n m2
theorem AllF.step {w0 : World} {b1 b2 b3 b4 n : Nat} {bs cs : List Bool} {p1 p2 : Nat} {a : Int} {m1 m2 : Int} {W W' : World} (h : AllF w0 b1 b2 b3 b4 n bs cs p1 p2 a m1 m2 W) (hb : Below W.heap.size W W') :
    AllF w0 b1 b2 b3 b4 n bs cs p1 p2 a m1 m2 W' := ⟨h.env.step hb, h.s1.step hb, h.s2.step hb⟩

set_option maxHeartbeats 1000000 in
theorem flip_true (a : Int) (x : Addr) (n c i m : Nat) (bs : List Bool) (w : World) (hn : n ≤ 1048576) (hi : i < n) (hl : Hid (bs.length = n)) (hm : m + 1 ≤ n)
    (hv : Hid (bs.getD i false = true)) (h1 : Hid ((cnt bs : Int) = (m : Int) + 1)) (h2 : Hid ((cnt (bs.set i false) : Int) = (m : Int))) (hcell : Hid (∀ i, i < n → w.cell? (x.add i) = some (fB bs i))) :
    Calls Try.prog 4 #[.int .i64 a, .slice (some x) n c, .int .i64 i] w fun e w' => e = .returned (.bool true) ∧ Below w.heap.size w w' := by
  have NS : Hid ((bs.set i false).length = n) := by show _ = _; rw [List.length_set, hl.out]
  go_enter Try.func4, Try.ntmps4
  go_wp2_with fail
  refine (bytes2_yes a (some x) n c i _ hn).mono ?_
  rintro e w0 ⟨rfl, rfl⟩
  go_wp2_with fail
  refine (clone_any x n c bs _ hn hcell.out).mono ?_
  rintro e w1 ⟨rfl, R1, hb1⟩
  have HR0 := hide R1
  have HB1 := hide hb1
  have L1 := R1.lt
  clear R1 hb1 hcell
  go_wp2_with fail
  refine (clone_at w0.heap.size 0 n n bs _ hn (fun i hi => by rw [Nat.zero_add]; exact HR0.out.cell hi) (fun _ => L1)).mono ?_
  rintro e w2 ⟨rfl, R2, hb2⟩
  have HR1' := hide (HR0.out.of_block (hb2.block _ L1))
  have HB2 := hide (HB1.out.trans (hb2.mono (by omega)))
  have L2 := R2.lt
  have ca : w2.cell? ⟨w0.heap.size, i, none⟩ = some (.bool true) := by rw [HR1'.out.cell hi, fB, hv.out]
  have cb : w2.cell? ⟨w1.heap.size, i, none⟩ = some (.bool true) := by rw [R2.cell hi, fB, hv.out]
  have fb : w2.frozen? ⟨w1.heap.size, i, none⟩ = false := R2.frozen i
  have HR2 : Hid ((w2.setCell ⟨w1.heap.size, i, none⟩ (.bool false)).rowIs w1.heap.size 4 n (fB (bs.set i false))) := (R2.set i _).congr (fun j _ => fB_set bs i j false (by rw [hl.out]; exact hi))
  have HR1 : Hid ((w2.setCell ⟨w1.heap.size, i, none⟩ (.bool false)).rowIs w0.heap.size 4 n (fB bs)) := HR1'.out.setOther (by show w0.heap.size ≠ w1.heap.size; omega) _
  have HB3 : Hid (Below w0.heap.size w0 (w2.setCell ⟨w1.heap.size, i, none⟩ (.bool false))) := HB2.out.setCell (by show w0.heap.size ≤ w1.heap.size; omega) _
  clear R2 hb2 HR1' HB2 HB1 HR0
  go_wp2_with fail
  clear ca cb fb L2
  generalize w2.setCell ⟨w1.heap.size, i, none⟩ (.bool false) = w3 at HR1 HR2 HB3 ⊢
  generalize w1.heap.size = b2 at *
  refine (clone_at w0.heap.size 0 n n bs _ hn (fun i hi => by rw [Nat.zero_add]; exact HR1.out.cell hi) (fun _ => HR1.out.lt)).mono ?_
  rintro e w4 ⟨rfl, R3, hb⟩
  have HR3 := hide R3
  have HR1' := hide (HR1.out.of_block (hb.block _ HR1.out.lt))
  have HR2' := hide (HR2.out.of_block (hb.block _ HR2.out.lt))
  have HB4 := hide (HB3.out.trans (hb.mono HB3.out.size))
  clear R3 hb HR1 HR2 HB3
  generalize w3.heap.size = b3 at *
  go_wp2_with fail
  refine (clone_at b2 0 n n (bs.set i false) _ hn (fun i hi => by rw [Nat.zero_add]; exact HR2'.out.cell hi) (fun _ => HR2'.out.lt)).mono ?_
  rintro e w5 ⟨rfl, R4, hb⟩
  have E5 : Hid (EnvF w0 w0.heap.size b2 b3 w4.heap.size n bs (bs.set i false) w5) := ⟨HB4.out.trans (hb.mono HB4.out.size), HR1'.out.of_block (hb.block _ HR1'.out.lt), HR2'.out.of_block (hb.block _ HR2'.out.lt), HR3.out.of_block (hb.block _ HR3.out.lt), R4⟩
  clear R4 hb HR1' HR2' HR3 HB4
  generalize w4.heap.size = b4 at *
  go_wp2_with fail
  refine (new9 a _ n n ((m : Int) + 1) _ (cnt_of E5.out.r1 hn hl.out h1.out)).mono ?_
  rintro e w6 ⟨rfl, hb5⟩
  have E6 := hide (E5.out.step (hb5.trans ((Below.refl _ w6).alloc hb5.size (.cells #[.int .i64 a, .slice (some ⟨w0.heap.size, 0, none⟩) n n, .int .i64 ((m : Int) + 1)] 26))))
  have S1 := hide (St.new w6 a (some ⟨w0.heap.size, 0, none⟩) n n ((m : Int) + 1))
  clear hb5 E5
  go_wp2_with fail
  refine (new9 a _ n n ((m : Int)) _ (cnt_of E6.out.r2 hn NS.out h2.out)).mono ?_
  rintro e w7 ⟨rfl, hb6⟩
  have hb6' := hb6.trans ((Below.refl _ w7).alloc hb6.size (.cells #[.int .i64 a, .slice (some ⟨b2, 0, none⟩) n n, .int .i64 ((m : Int))] 26))
  have E7 := hide (E6.out.step hb6')
  have S1' := hide (S1.out.step hb6')
  have S2 := hide (St.new w7 a (some ⟨b2, 0, none⟩) n n ((m : Int)))
  clear hb6 hb6' E6 S1
  have H7 : Hid (AllF w0 w0.heap.size b2 b3 b4 n bs (bs.set i false) w6.heap.size w7.heap.size a ((m : Int) + 1) ((m : Int)) _) := ⟨E7.out, S1'.out, S2.out⟩
  clear E7 S1' S2
  obtain ⟨c0, c1, c2, _⟩ := H7.out.s1
  go_wp2_with fail
  refine (ahead10b _ _ _ _ _ _).mono ?_
  rintro e W1 ⟨rfl, hb⟩
  have H8 := hide (H7.out.step hb)
  clear hb c0 c1 c2 H7
  generalize w7.heap.size = p2 at H8 ⊢
  generalize w6.heap.size = p1 at H8 ⊢
  obtain ⟨c0, c1, c2, _⟩ := H8.out.s2
  go_wp2_with fail
  refine (ahead10b _ _ _ _ _ _).mono ?_
  rintro e W2 ⟨rfl, hb⟩
  have H9 := hide (H8.out.step hb)
  clear hb c0 c1 c2 H8
  obtain ⟨c0, c1, c2, _⟩ := H9.out.s1
  have cw : W2.cell? ⟨b3, i, none⟩ = some (.bool true) := by rw [H9.out.env.r3.cell hi, fB, hv.out]
  go_wp2_with fail
  refine (next11b _ _ _ _ _ _).mono ?_
  rintro e W3 ⟨rfl, hb⟩
  have H10 := hide (H9.out.step hb)
  clear hb c0 c1 c2 cw H9
  obtain ⟨c0, c1, c2, _⟩ := H10.out.s2
  go_wp2_with fail
  refine (next11b _ _ _ _ _ _).mono ?_
  rintro e W4 ⟨rfl, hb⟩
  have H11 := hide (H10.out.step hb)
  clear hb c0 c1 c2 H10
  obtain ⟨c0, c1, c2, _⟩ := H11.out.s1
  go_wp2_with fail
  refine (acked13b _ _ _ _ _ _).mono ?_
  rintro e W5 ⟨rfl, hb⟩
  have H12 := hide (H11.out.step hb)
  clear hb c0 c1 c2 H11
  go_wp2_with fail
  refine (same_any w0.heap.size 0 n b3 0 n n bs _ hn (row_later H12.out.env.r1 (Below.refl _ _)) (row_later H12.out.env.r3 (Below.refl _ _))).mono ?_
  rintro e W6 ⟨rfl, hq⟩
  have H13 := hide (H12.out.step (below_q hq))
  clear hq H12
  obtain ⟨c0, c1, c2, _⟩ := H13.out.s2
  go_wp2_with fail
  refine (acked13b _ _ _ _ _ _).mono ?_
  rintro e W7 ⟨rfl, hb⟩
  have H14 := hide (H13.out.step hb)
  clear hb c0 c1 c2 H13
  go_wp2_with fail
  refine (same_any b2 0 n b4 0 n n (bs.set i false) _ hn (row_later H14.out.env.r2 (Below.refl _ _)) (row_later H14.out.env.r4 (Below.refl _ _))).mono ?_
  rintro e W8 ⟨rfl, hq⟩
  have H15 := hide (H14.out.step (below_q hq))
  clear hq H14
  go_wp2_with fail
  go_ret
  exact ⟨rfl, H15.out.env.bel⟩

set_option maxHeartbeats 1000000 in
theorem flip_false (a : Int) (x : Addr) (n c i m : Nat) (bs : List Bool) (w : World) (hn : n ≤ 1048576) (hi : i < n) (hl : Hid (bs.length = n)) (hm : m + 1 ≤ n)
    (hv : Hid (bs.getD i false = false)) (h1 : Hid ((cnt bs : Int) = (m : Int))) (h2 : Hid ((cnt (bs.set i true) : Int) = (m : Int) + 1)) (hcell : Hid (∀ i, i < n → w.cell? (x.add i) = some (fB bs i))) :
    Calls Try.prog 4 #[.int .i64 a, .slice (some x) n c, .int .i64 i] w fun e w' => e = .returned (.bool true) ∧ Below w.heap.size w w' := by
  have NS : Hid ((bs.set i true).length = n) := by show _ = _; rw [List.length_set, hl.out]
  go_enter Try.func4, Try.ntmps4
  go_wp2_with fail
  refine (bytes2_yes a (some x) n c i _ hn).mono ?_
  rintro e w0 ⟨rfl, rfl⟩
  go_wp2_with fail
  refine (clone_any x n c bs _ hn hcell.out).mono ?_
  rintro e w1 ⟨rfl, R1, hb1⟩
  have HR0 := hide R1
  have HB1 := hide hb1
  have L1 := R1.lt
  clear R1 hb1 hcell
  go_wp2_with fail
  refine (clone_at w0.heap.size 0 n n bs _ hn (fun i hi => by rw [Nat.zero_add]; exact HR0.out.cell hi) (fun _ => L1)).mono ?_
  rintro e w2 ⟨rfl, R2, hb2⟩
  have HR1' := hide (HR0.out.of_block (hb2.block _ L1))
  have HB2 := hide (HB1.out.trans (hb2.mono (by omega)))
  have L2 := R2.lt
  have ca : w2.cell? ⟨w0.heap.size, i, none⟩ = some (.bool false) := by rw [HR1'.out.cell hi, fB, hv.out]
  have cb : w2.cell? ⟨w1.heap.size, i, none⟩ = some (.bool false) := by rw [R2.cell hi, fB, hv.out]
  have fb : w2.frozen? ⟨w1.heap.size, i, none⟩ = false := R2.frozen i
  have HR2 : Hid ((w2.setCell ⟨w1.heap.size, i, none⟩ (.bool true)).rowIs w1.heap.size 4 n (fB (bs.set i true))) := (R2.set i _).congr (fun j _ => fB_set bs i j true (by rw [hl.out]; exact hi))
  have HR1 : Hid ((w2.setCell ⟨w1.heap.size, i, none⟩ (.bool true)).rowIs w0.heap.size 4 n (fB bs)) := HR1'.out.setOther (by show w0.heap.size ≠ w1.heap.size; omega) _
  have HB3 : Hid (Below w0.heap.size w0 (w2.setCell ⟨w1.heap.size, i, none⟩ (.bool true))) := HB2.out.setCell (by show w0.heap.size ≤ w1.heap.size; omega) _
  clear R2 hb2 HR1' HB2 HB1 HR0
  go_wp2_with fail
  clear ca cb fb L2
  generalize w2.setCell ⟨w1.heap.size, i, none⟩ (.bool true) = w3 at HR1 HR2 HB3 ⊢
  generalize w1.heap.size = b2 at *
  refine (clone_at w0.heap.size 0 n n bs _ hn (fun i hi => by rw [Nat.zero_add]; exact HR1.out.cell hi) (fun _ => HR1.out.lt)).mono ?_
  rintro e w4 ⟨rfl, R3, hb⟩
  have HR3 := hide R3
  have HR1' := hide (HR1.out.of_block (hb.block _ HR1.out.lt))
  have HR2' := hide (HR2.out.of_block (hb.block _ HR2.out.lt))
  have HB4 := hide (HB3.out.trans (hb.mono HB3.out.size))
  clear R3 hb HR1 HR2 HB3
  generalize w3.heap.size = b3 at *
  go_wp2_with fail
  refine (clone_at b2 0 n n (bs.set i true) _ hn (fun i hi => by rw [Nat.zero_add]; exact HR2'.out.cell hi) (fun _ => HR2'.out.lt)).mono ?_
  rintro e w5 ⟨rfl, R4, hb⟩
  have E5 : Hid (EnvF w0 w0.heap.size b2 b3 w4.heap.size n bs (bs.set i true) w5) := ⟨HB4.out.trans (hb.mono HB4.out.size), HR1'.out.of_block (hb.block _ HR1'.out.lt), HR2'.out.of_block (hb.block _ HR2'.out.lt), HR3.out.of_block (hb.block _ HR3.out.lt), R4⟩
  clear R4 hb HR1' HR2' HR3 HB4
  generalize w4.heap.size = b4 at *
  go_wp2_with fail
  refine (new9 a _ n n ((m : Int)) _ (cnt_of E5.out.r1 hn hl.out h1.out)).mono ?_
  rintro e w6 ⟨rfl, hb5⟩
  have E6 := hide (E5.out.step (hb5.trans ((Below.refl _ w6).alloc hb5.size (.cells #[.int .i64 a, .slice (some ⟨w0.heap.size, 0, none⟩) n n, .int .i64 ((m : Int))] 26))))
  have S1 := hide (St.new w6 a (some ⟨w0.heap.size, 0, none⟩) n n ((m : Int)))
  clear hb5 E5
  go_wp2_with fail
  refine (new9 a _ n n ((m : Int) + 1) _ (cnt_of E6.out.r2 hn NS.out h2.out)).mono ?_
  rintro e w7 ⟨rfl, hb6⟩
  have hb6' := hb6.trans ((Below.refl _ w7).alloc hb6.size (.cells #[.int .i64 a, .slice (some ⟨b2, 0, none⟩) n n, .int .i64 ((m : Int) + 1)] 26))
  have E7 := hide (E6.out.step hb6')
  have S1' := hide (S1.out.step hb6')
  have S2 := hide (St.new w7 a (some ⟨b2, 0, none⟩) n n ((m : Int) + 1))
  clear hb6 hb6' E6 S1
  have H7 : Hid (AllF w0 w0.heap.size b2 b3 b4 n bs (bs.set i true) w6.heap.size w7.heap.size a ((m : Int)) ((m : Int) + 1) _) := ⟨E7.out, S1'.out, S2.out⟩
  clear E7 S1' S2
  obtain ⟨c0, c1, c2, _⟩ := H7.out.s1
  go_wp2_with fail
  refine (ahead10b _ _ _ _ _ _).mono ?_
  rintro e W1 ⟨rfl, hb⟩
  have H8 := hide (H7.out.step hb)
  clear hb c0 c1 c2 H7
  generalize w7.heap.size = p2 at H8 ⊢
  generalize w6.heap.size = p1 at H8 ⊢
  obtain ⟨c0, c1, c2, _⟩ := H8.out.s2
  go_wp2_with fail
  refine (ahead10b _ _ _ _ _ _).mono ?_
  rintro e W2 ⟨rfl, hb⟩
  have H9 := hide (H8.out.step hb)
  clear hb c0 c1 c2 H8
  obtain ⟨c0, c1, c2, _⟩ := H9.out.s1
  have cw : W2.cell? ⟨b3, i, none⟩ = some (.bool false) := by rw [H9.out.env.r3.cell hi, fB, hv.out]
  go_wp2_with fail
  refine (next11b _ _ _ _ _ _).mono ?_
  rintro e W3 ⟨rfl, hb⟩
  have H10 := hide (H9.out.step hb)
  clear hb c0 c1 c2 cw H9
  obtain ⟨c0, c1, c2, _⟩ := H10.out.s2
  go_wp2_with fail
  refine (next11b _ _ _ _ _ _).mono ?_
  rintro e W4 ⟨rfl, hb⟩
  have H11 := hide (H10.out.step hb)
  clear hb c0 c1 c2 H10
  obtain ⟨c0, c1, c2, _⟩ := H11.out.s1
  go_wp2_with fail
  refine (acked13b _ _ _ _ _ _).mono ?_
  rintro e W5 ⟨rfl, hb⟩
  have H12 := hide (H11.out.step hb)
  clear hb c0 c1 c2 H11
  go_wp2_with fail
  refine (same_any w0.heap.size 0 n b3 0 n n bs _ hn (row_later H12.out.env.r1 (Below.refl _ _)) (row_later H12.out.env.r3 (Below.refl _ _))).mono ?_
  rintro e W6 ⟨rfl, hq⟩
  have H13 := hide (H12.out.step (below_q hq))
  clear hq H12
  obtain ⟨c0, c1, c2, _⟩ := H13.out.s2
  go_wp2_with fail
  refine (acked13b _ _ _ _ _ _).mono ?_
  rintro e W7 ⟨rfl, hb⟩
  have H14 := hide (H13.out.step hb)
  clear hb c0 c1 c2 H13
  go_wp2_with fail
  refine (same_any b2 0 n b4 0 n n (bs.set i true) _ hn (row_later H14.out.env.r2 (Below.refl _ _)) (row_later H14.out.env.r4 (Below.refl _ _))).mono ?_
  rintro e W8 ⟨rfl, hq⟩
  have H15 := hide (H14.out.step (below_q hq))
  clear hq H14
  go_wp2_with fail
  go_ret
  exact ⟨rfl, H15.out.env.bel⟩
end Go.Proofs.Qxb6616825a.Law

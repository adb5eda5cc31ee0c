import Derived.Test.Qxb6616825aAdd
namespace Go.Proofs.Qxb6616825a.Law
open Go.RowKit

theorem cnt_nil {W : World} : ∀ W', Below W.heap.size W W' → Calls Try.prog 19 #[.slice none 0 0] W' fun e w' => e = .returned (.int .i64 0) ∧ w' = W' := fun W' _ => count_nil W'

theorem same_nilq (w : World) : Calls Try.prog 12 #[.slice none 0 0, .slice none 0 0] w fun e w' => e = .returned (.bool true) ∧ ∃ q, w' = w.drewN q :=
  (same_nil w).mono fun _ _ ⟨h1, h2⟩ => ⟨h1, 0, h2⟩

/-- What is known of memory behind the three progresses, all slices nil. -/
structure AllN (w0 : World) (p1 p2 p3 : Nat) (a rn : Int) (W : World) : Prop where
  bel : Below w0.heap.size w0 W
  s1 : St W p1 a none 0 0 0
  s2 : St W p2 a none 0 0 0
  s3 : St W p3 rn none 0 0 0
theorem AllN.step {w0 : World} {p1 p2 p3 : Nat} {a rn : Int} {W W' : World} (h : AllN w0 p1 p2 p3 a rn W) (hb : Below W.heap.size W W') : AllN w0 p1 p2 p3 a rn W' :=
  ⟨h.bel.trans (hb.mono h.bel.size), h.s1.step hb, h.s2.step hb, h.s3.step hb⟩

set_option maxHeartbeats 1000000 in
theorem add_nil (a : Int) (w : World) :
    Calls Try.prog 3 #[.int .i64 a, .slice none 0 0, .int .i64 0] w fun e w' => e = .returned (.bool true) ∧ Below w.heap.size w w' := by
  go_enter Try.func3, Try.ntmps3
  go_wp2_with fail
  refine (bytes_yes a none 0 0 0 _ (by omega)).mono ?_
  rintro e w0 ⟨rfl, rfl⟩
  go_wp2_with fail
  refine (clone_nil _).mono ?_
  rintro e w1 ⟨rfl, rfl⟩
  go_wp2_with fail
  refine (clone_nil _).mono ?_
  rintro e w2 ⟨rfl, rfl⟩
  go_wp2_with fail
  refine (clone_nil _).mono ?_
  rintro e w3 ⟨rfl, rfl⟩
  go_wp2_with fail
  refine (clone_nil _).mono ?_
  rintro e w4 ⟨rfl, rfl⟩
  go_wp2_with fail
  refine (new9 a none 0 0 0 _ cnt_nil).mono ?_
  rintro e w5 ⟨rfl, hb5⟩
  have E5 := hide (hb5.trans ((Below.refl _ w5).alloc hb5.size (.cells #[.int .i64 a, .slice none 0 0, .int .i64 0] 26)))
  have S1 := hide (St.new w5 a none 0 0 0)
  clear hb5
  go_wp2_with fail
  refine (new9 a none 0 0 0 _ cnt_nil).mono ?_
  rintro e w6 ⟨rfl, hb6⟩
  have hb6' := hb6.trans ((Below.refl _ w6).alloc hb6.size (.cells #[.int .i64 a, .slice none 0 0, .int .i64 0] 26))
  have E6 := hide (E5.out.trans (hb6'.mono E5.out.size))
  have S1' := hide (S1.out.step hb6')
  have S2 := hide (St.new w6 a none 0 0 0)
  clear hb6 hb6' E5 S1
  go_wp2_with fail
  generalize wrap64 a = rn
  refine (new9 rn none 0 0 0 _ cnt_nil).mono ?_
  rintro e w7 ⟨rfl, hb7⟩
  have hb7' := hb7.trans ((Below.refl _ w7).alloc hb7.size (.cells #[.int .i64 rn, .slice none 0 0, .int .i64 0] 26))
  have E7 := hide (E6.out.trans (hb7'.mono E6.out.size))
  have S1 := hide (S1'.out.step hb7')
  have S2' := hide (S2.out.step hb7')
  have S3 := hide (St.new w7 rn none 0 0 0)
  clear hb7 hb7' E6 S1' S2
  have H7 : Hid (AllN w4 w5.heap.size w6.heap.size w7.heap.size a rn _) := ⟨E7.out, S1.out, S2'.out, S3.out⟩
  clear E7 S1 S2' S3
  obtain ⟨c0, c1, c2, _⟩ := H7.out.s1
  go_wp2_with fail
  refine (ahead10b _ _ _ _ _ _).mono ?_
  rintro e W1 ⟨rfl, hb⟩
  have H8 := hide (H7.out.step hb)
  clear hb c0 c1 c2 H7
  generalize w7.heap.size = p3 at H8 ⊢
  generalize w6.heap.size = p2 at H8 ⊢
  generalize w5.heap.size = p1 at H8 ⊢
  obtain ⟨c0, c1, c2, _⟩ := H8.out.s2
  go_wp2_with fail
  refine (ahead10b _ _ _ _ _ _).mono ?_
  rintro e W2 ⟨rfl, hb⟩
  have H9 := hide (H8.out.step hb)
  clear hb c0 c1 c2 H8
  obtain ⟨c0, c1, c2, _⟩ := H9.out.s3
  go_wp2_with fail
  refine (ahead10b _ _ _ _ _ _).mono ?_
  rintro e W3 ⟨rfl, hb⟩
  have H10 := hide (H9.out.step hb)
  clear hb c0 c1 c2 H9
  obtain ⟨c0, c1, c2, _⟩ := H10.out.s1
  go_wp2_with fail
  refine (next11b _ _ _ _ _ _).mono ?_
  rintro e W4 ⟨rfl, hb⟩
  have H11 := hide (H10.out.step hb)
  clear hb c0 c1 c2 H10
  obtain ⟨c0, c1, c2, _⟩ := H11.out.s2
  go_wp2_with fail
  refine (next11b _ _ _ _ _ _).mono ?_
  rintro e W5 ⟨rfl, hb⟩
  have H12 := hide (H11.out.step hb)
  clear hb c0 c1 c2 H11
  obtain ⟨c0, c1, c2, _⟩ := H12.out.s3
  go_wp2_with fail
  refine (next11b _ _ _ _ _ _).mono ?_
  rintro e W6 ⟨rfl, hb⟩
  have H13 := hide (H12.out.step hb)
  clear hb c0 c1 c2 H12
  obtain ⟨c0, c1, c2, _⟩ := H13.out.s1
  go_wp2_with fail
  refine (acked13b _ _ _ _ _ _).mono ?_
  rintro e W7 ⟨rfl, hb⟩
  have H14 := hide (H13.out.step hb)
  clear hb c0 c1 c2 H13
  go_wp2_with fail
  refine (same_nil _).mono ?_
  rintro e W8 ⟨rfl, rfl⟩
  obtain ⟨c0, c1, c2, clt⟩ := H14.out.s2
  go_wp2_with fail
  go_region_with (first | (go_at_call 13; refine (acked13 _ _ _ _ _ _).mono ?_; rintro e W9 ⟨rfl, rfl⟩) | (go_at_call 12; refine (same_nilq _).mono ?_; rintro e W9 ⟨rfl, hq⟩))
  have hb : Below W8.heap.size W8 W9 := by
    obtain ⟨q, e⟩ := hq
    rw [e]
    exact bel (Below.drew ((Below.refl _ W8).alloc (Nat.le_refl _) _)) q
  have H16 := hide (H14.out.step hb)
  clear hb hq c0 c1 c2 clt H14
  obtain ⟨d0, d1, d2, dlt⟩ := H16.out.s3
  go_wp2_with fail
  go_region_with (first | (go_at_call 13; refine (acked13 _ _ _ _ _ _).mono ?_; rintro e W10 ⟨rfl, rfl⟩) | (go_at_call 12; refine (same_nilq _).mono ?_; rintro e W10 ⟨rfl, hq⟩))
  have hb : Below W9.heap.size W9 W10 := by
    obtain ⟨q, e⟩ := hq
    rw [e]
    exact bel (Below.drew ((Below.refl _ W9).alloc (Nat.le_refl _) _)) q
  have H17 := hide (H16.out.step hb)
  clear hb hq d0 d1 d2 dlt H16
  go_wp2_with fail
  refine (same_nil _).mono ?_
  rintro e W11 ⟨rfl, rfl⟩
  go_wp2_with fail
  go_ret
  exact ⟨rfl, H17.out.bel⟩
end Go.Proofs.Qxb6616825a.Law

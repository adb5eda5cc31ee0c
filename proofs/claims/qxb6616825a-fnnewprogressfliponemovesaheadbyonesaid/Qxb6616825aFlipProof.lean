/-
  'Rows.FnNewProgressFlipOneMovesAheadByOneSaid', proved: the row's step over the walks.
-/
import Derived.Test.Qxb6616825aRows
import Derived.Test.Qxb6616825aFlip
import Derived.ProofKit
import Derived.OpenShut
import Derived.Deep.Grids
namespace Go.Proofs.Qxb6616825a.Law
open Go.ChangeShapes Go.WideShapes Go.ChangeAt Go.RowKit Go.Deep

theorem own : ownKnob Try.prog.godebug = none := by kernel_rfl
theorem laidOut : laidOutB Try.prog = true := by kernel_rfl

theorem fB_range (B : Nat → Bool) (n i : Nat) (h : i < n) : fB ((List.range n).map B) i = .bool (B i) := by
  unfold fB
  rw [List.getD_eq_getElem?_getD, List.getElem?_map, List.getElem?_range h]
  rfl

/-- Whatever slice of bools comes in. -/
theorem flip_any (a : Int) (x : Option Addr) (n c : Nat) (k : Int) (w : World)
    (hx : (x = none ∧ n = 0 ∧ c = 0) ∨ ∃ (y : Addr) (B : Nat → Bool), x = some y ∧ n ≤ c ∧ c ≤ maxLen ∧ ∀ i, i < c → w.cell? (y.add i) = some (.bool (B i))) :
    Calls Try.prog 4 #[.int .i64 a, .slice x n c, .int .i64 k] w fun e w' => e = .returned (.bool true) ∧ Below w.heap.size w w' := by
  have hmax : n ≤ 9223372036854775807 := by
    rcases hx with ⟨_, h, _⟩ | ⟨_, _, _, h1, h2, _⟩
    · omega
    · unfold maxLen at h2; omega
  by_cases hn : n ≤ 1048576
  · by_cases hk : k < 0 ∨ (n : Int) ≤ k
    · exact flip_out a x n c k w hn hk
    · obtain ⟨kn, rfl⟩ : ∃ kn : Nat, k = kn := ⟨k.toNat, by omega⟩
      rcases hx with ⟨rfl, rfl, rfl⟩ | ⟨y, B, rfl, h1, h2, hc⟩
      · omega
      · have hi : kn < n := by omega
        have hl : ((List.range n).map B).length = n := by simp
        have hcell : ∀ i, i < n → w.cell? (y.add i) = some (fB ((List.range n).map B) i) := fun i hi => by rw [hc i (by omega), fB_range B n i hi]
        generalize (List.range n).map B = bs at hl hcell
        have hs := cnt_set bs kn (by omega)
        have hle := cnt_le bs
        cases hv : bs.getD kn false with
        | true =>
          have e1 := hs.1 hv
          exact flip_true a y n c kn (cnt (bs.set kn false)) bs w hn hi hl (by omega) hv (by show _ = _; omega) rfl hcell
        | false =>
          have e1 := hs.2 hv
          have hle2 := cnt_le (bs.set kn true)
          rw [List.length_set] at hle2
          exact flip_false a y n c kn (cnt bs) bs w hn hi hl (by omega) hv rfl (by show _ = _; omega) hcell
  · exact flip_big a x n c k w hn hmax

set_option maxRecDepth 100000 in
theorem flipLifted (os : Os) (started : os.Started) (H : Type) (enc : TypeId × Value → H) :
    ReturnsInHanded {} Try.checked os 4 .any (Rows.fnNewProgressFlipOneMovesAheadByOneSpec.pre6 enc Try.prog Try.f4 Rows.fnNewProgressFlipOneMovesAheadByOneRow.domain false) (Rows.fnNewProgressFlipOneMovesAheadByOneSpec.post enc Try.prog Try.f4 false true false false) := by
  refine returnsInHanded_of_change (C := Try.checked) own started (by kernel_rfl) Try.func4
    (ChangeSpec.witness6 (enc := enc) (C := Try.checked) false ⟨#[], #[.int .i64 0, .slice none 0 0, .int .i64 0], []⟩ 8 (by kernel_rfl) (by kernel_rfl) (by kernel_rfl) (by kernel_rfl)) ?_
  intro W base args ds gs before hval0 hW hcnd _
  have hval : ∀ (j : Nat) t v, Try.f4.params[j]? = some t → args[j]? = some v → Value.okWide Try.prog W .any base t v := hval0
  have hW' := hW
  obtain ⟨p, q, hA0, hV, rfl, hfz, hnd⟩ := hW
  have hA : DataW.TrodAll enc Try.prog W 0 (fun _ => true) true Try.f4.params.toList args.toList ds p := hA0
  rw [Try.params4] at hA hval
  obtain ⟨v0, vs0, d0, ds0, p0, q0, hargs, rfl, rfl, h0, r0⟩ := trodAll_cons hA
  obtain ⟨v1, vs1, d1, ds1, p1, q1, rfl, rfl, rfl, h1, r1⟩ := trodAll_cons r0
  obtain ⟨v2, vs2, d2, ds2, p2, q2, rfl, rfl, rfl, h2, r2⟩ := trodAll_cons r1
  obtain ⟨rfl, rfl, rfl⟩ := trodAll_nil r2
  obtain rfl : args = #[v0, v1, v2] := by cases args; simp_all
  obtain ⟨rfl, rfl⟩ := trodVars_none hV
  obtain ⟨a0, rfl, rfl, rfl, w0⟩ := open_int Try.underlying2 (hval 0 2 v0 rfl rfl) h0
  obtain ⟨a1, len1, cap1, rfl⟩ := okWide_slice Try.underlying22 (hval 1 22 v1 rfl rfl)
  have k1 := h1
  have lt1 : ∀ x ∈ p1, x.block < W.heap.size := by obtain ⟨m, hm⟩ := k1; exact DataW.trod_lt m _ _ _ hm
  have hrow : (a1 = none ∧ len1 = 0 ∧ cap1 = 0) ∨ ∃ (y : Addr) (B : Nat → Bool), a1 = some y ∧ len1 ≤ cap1 ∧ cap1 ≤ maxLen ∧ ∀ i, i < cap1 → W.cell? (y.add i) = some (.bool (B i)) := by
    obtain ⟨fuel, hf⟩ := h1
    rcases open_bools Try.underlying22 Try.underlying4 (by kernel_rfl) hf with ⟨hcs, _⟩ | ⟨x, l, c, B, hcs, _, hl, hm, _, hcell⟩
    · simp [Value.cells] at hcs
      exact .inl hcs
    · simp [Value.cells] at hcs
      obtain ⟨rfl, rfl, rfl⟩ := hcs
      exact .inr ⟨x, B, rfl, hl, hm, hcell⟩
  obtain ⟨a2, rfl, rfl, rfl, w2⟩ := open_int Try.underlying3 (hval 2 3 v2 rfl rfl) h2
  clear hA0 hval0
  refine (flip_any a0 a1 len1 cap1 a2 W hrow).mono fun e W' ⟨he, bel⟩ => ?_
  subst he
  exact ⟨_, rfl, _, _, _, [], _, [], hW', trodAll_mk1 (shut_bool Try.underlying4 _), (trodAll_cons_mk (shut_int Try.underlying2 w0) (trodAll_cons_mk (Below.trod laidOut (by kernel_rfl) (of_decide_eq_true (by kernel_rfl)) k1 bel lt1) (trodAll_cons_mk (shut_int Try.underlying3 w2) trodAll_mk0))), rfl, bel.frame _, fun h => by cases h⟩

theorem flipOver : Rows.fnNewProgressFlipOneMovesAheadByOneRow.holds Try.pinned (OpenSpec.ofChange Rows.fnNewProgressFlipOneMovesAheadByOneSpec) :=
  OpenClaim.holds_of_wide 4 Try.f4 rfl rfl rfl rfl rfl rfl rfl ⟨rfl, rfl, rfl, rfl, rfl⟩ rfl rfl rfl rfl rfl (by kernel_rfl) Try.func4 (by kernel_rfl)
    (of_decide_eq_true (by kernel_rfl)) (by unfold Func.isWrapper; first | (rw [if_pos (by decide +kernel)]; kernel_rfl) | (rw [if_neg (by decide +kernel)]; exact ⟨rfl, rfl⟩))
    (fun os started H enc _ => flipLifted os started H enc)
end Go.Proofs.Qxb6616825a.Law

namespace Go.Proofs.Qxb6616825a
/-- The given statement. -/
theorem newProgressFlipOneMovesAheadByOne_holds : Rows.FnNewProgressFlipOneMovesAheadByOneSaid := Law.flipOver
end Go.Proofs.Qxb6616825a

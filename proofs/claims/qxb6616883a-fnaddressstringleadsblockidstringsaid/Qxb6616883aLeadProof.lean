/-
  'Rows.FnAddressStringLeadsBlockIDStringSaid', proved: the row's step over the walk.
-/
import Derived.Test.Qxb6616883aRows
import Derived.Test.Qxb6616883aLead
import Derived.Test.Qxb6616883aOpen
namespace Go.Proofs.Qxb6616883a.Law
open Go.ChangeShapes Go.WideShapes Go.ChangeAt Go.RowKit

theorem own : ownKnob Try.prog.godebug = none := by kernel_rfl
theorem cells27 : Try.prog.cellsOf 27 = 20 := by kernel_rfl
theorem cells28 : Try.prog.cellsOf 28 = 12 := by kernel_rfl
theorem cells5 : Try.prog.cellsOf 5 = 1 := by kernel_rfl

set_option maxRecDepth 100000 in
theorem leadLifted (os : Os) (started : os.Started) (H : Type) (enc : TypeId × Value → H) :
    ReturnsInHanded {} Try.checked os 4 .any (Rows.fnAddressStringLeadsBlockIDStringSpec.pre6 enc Try.prog Try.f4 Rows.fnAddressStringLeadsBlockIDStringRow.domain false) (Rows.fnAddressStringLeadsBlockIDStringSpec.post enc Try.prog Try.f4 false true false false) := by
  refine returnsInHanded_of_change (C := Try.checked) own started (by kernel_rfl) Try.func4
    (ChangeSpec.witness6 (enc := enc) (C := Try.checked) false ⟨#[], #[.agg #[.int .u8 0, .int .u8 0, .int .u8 0, .int .u8 0, .int .u8 0, .int .u8 0, .int .u8 0, .int .u8 0, .int .u8 0, .int .u8 0, .int .u8 0, .int .u8 0, .int .u8 0, .int .u8 0, .int .u8 0, .int .u8 0, .int .u8 0, .int .u8 0, .int .u8 0, .int .u8 0], .agg #[.int .u8 0, .int .u8 0, .int .u8 0, .int .u8 0, .int .u8 0, .int .u8 0, .int .u8 0, .int .u8 0, .int .u8 0, .int .u8 0, .int .u8 0, .int .u8 0]], []⟩ 8 (by kernel_rfl) (by kernel_rfl) (by kernel_rfl) (by kernel_rfl)) ?_
  intro W base args ds gs before hval0 hW hcnd _
  have hval : ∀ (j : Nat) t v, Try.f4.params[j]? = some t → args[j]? = some v → Value.okWide Try.prog W .any base t v := hval0
  have hW' := hW
  obtain ⟨p, q, hA0, hV, rfl, hfz, hnd⟩ := hW
  have hA : DataW.TrodAll enc Try.prog W 0 (fun _ => true) true Try.f4.params.toList args.toList ds p := hA0
  rw [Try.params4] at hA hval
  obtain ⟨v0, vs0, d0, ds0, p0, q0, hargs, rfl, rfl, h0, r0⟩ := trodAll_cons hA
  obtain ⟨v1, vs1, d1, ds1, p1, q1, rfl, rfl, rfl, h1, r1⟩ := trodAll_cons r0
  obtain ⟨rfl, rfl, rfl⟩ := trodAll_nil r1
  obtain rfl : args = #[v0, v1] := by cases args; simp_all
  obtain ⟨rfl, rfl⟩ := trodVars_none hV
  obtain ⟨a, la, rfl, rfl, rfl⟩ := open_bytes Try.underlying27 Try.underlying5 cells5 cells27 (hval 0 27 v0 rfl rfl) h0
  obtain ⟨t, lt, rfl, rfl, rfl⟩ := open_bytes Try.underlying28 Try.underlying5 cells5 cells28 (hval 1 28 v1 rfl rfl) h1
  clear hA0 hval0
  refine (lead_any a t (zeroB (a ++ t)) la lt rfl W).mono fun e W' ⟨he, hb⟩ => ?_
  subst he
  exact ⟨_, rfl, _, _, _, [], [], [], hW', trodAll_mk1 (shut_bool Try.underlying4 _), (trodAll_cons_mk (shut_bytes a la Try.underlying27 Try.underlying5 cells5 cells27) (trodAll_cons_mk (shut_bytes t lt Try.underlying28 Try.underlying5 cells5 cells28) trodAll_mk0)), rfl, hb.frame _, fun h => by cases h⟩

theorem leadOver : Rows.fnAddressStringLeadsBlockIDStringRow.holds Try.pinned (OpenSpec.ofChange Rows.fnAddressStringLeadsBlockIDStringSpec) :=
  OpenClaim.holds_of_wide 4 Try.f4 rfl rfl rfl rfl rfl rfl rfl ⟨rfl, rfl, rfl, rfl, rfl⟩ rfl rfl rfl rfl rfl (by kernel_rfl) Try.func4 (by kernel_rfl)
    (of_decide_eq_true (by kernel_rfl)) (by unfold Func.isWrapper; first | (rw [if_pos (by decide +kernel)]; kernel_rfl) | (rw [if_neg (by decide +kernel)]; exact ⟨rfl, rfl⟩))
    (fun os started H enc _ => leadLifted os started H enc)
end Go.Proofs.Qxb6616883a.Law

namespace Go.Proofs.Qxb6616883a
/-- The given statement. -/
theorem addressStringLeadsBlockIDString_holds : Rows.FnAddressStringLeadsBlockIDStringSaid := Law.leadOver
end Go.Proofs.Qxb6616883a

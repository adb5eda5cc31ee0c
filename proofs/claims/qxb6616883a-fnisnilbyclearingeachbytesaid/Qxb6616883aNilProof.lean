/-
  'Rows.FnIsNilByClearingEachByteSaid', proved: the row's step over the walk.
-/
import Derived.Test.Qxb6616883aRows
import Derived.Test.Qxb6616883aNil
import Derived.Test.Qxb6616883aOpen
namespace Go.Proofs.Qxb6616883a.Law
open Go.ChangeShapes Go.WideShapes Go.ChangeAt Go.RowKit

theorem own : ownKnob Try.prog.godebug = none := by kernel_rfl
theorem cells22 : Try.prog.cellsOf 22 = 32 := by kernel_rfl
theorem cells5 : Try.prog.cellsOf 5 = 1 := by kernel_rfl

set_option maxRecDepth 100000 in
theorem nilLifted (os : Os) (started : os.Started) (H : Type) (enc : TypeId × Value → H) :
    ReturnsInHanded {} Try.checked os 3 .any (Rows.fnIsNilByClearingEachByteSpec.pre6 enc Try.prog Try.f3 Rows.fnIsNilByClearingEachByteRow.domain false) (Rows.fnIsNilByClearingEachByteSpec.post enc Try.prog Try.f3 false true false false) := by
  refine returnsInHanded_of_change (C := Try.checked) own started (by kernel_rfl) Try.func3
    (ChangeSpec.witness6 (enc := enc) (C := Try.checked) false ⟨#[], #[.agg #[.int .u8 0, .int .u8 0, .int .u8 0, .int .u8 0, .int .u8 0, .int .u8 0, .int .u8 0, .int .u8 0, .int .u8 0, .int .u8 0, .int .u8 0, .int .u8 0, .int .u8 0, .int .u8 0, .int .u8 0, .int .u8 0, .int .u8 0, .int .u8 0, .int .u8 0, .int .u8 0, .int .u8 0, .int .u8 0, .int .u8 0, .int .u8 0, .int .u8 0, .int .u8 0, .int .u8 0, .int .u8 0, .int .u8 0, .int .u8 0, .int .u8 0, .int .u8 0]], []⟩ 8 (by kernel_rfl) (by kernel_rfl) (by kernel_rfl) (by kernel_rfl)) ?_
  intro W base args ds gs before hval0 hW hcnd _
  have hval : ∀ (j : Nat) t v, Try.f3.params[j]? = some t → args[j]? = some v → Value.okWide Try.prog W .any base t v := hval0
  have hW' := hW
  obtain ⟨p, q, hA0, hV, rfl, hfz, hnd⟩ := hW
  have hA : DataW.TrodAll enc Try.prog W 0 (fun _ => true) true Try.f3.params.toList args.toList ds p := hA0
  rw [Try.params3] at hA hval
  obtain ⟨v0, vs0, d0, ds0, p0, q0, hargs, rfl, rfl, h0, r0⟩ := trodAll_cons hA
  obtain ⟨rfl, rfl, rfl⟩ := trodAll_nil r0
  obtain rfl : args = #[v0] := by cases args; simp_all
  obtain ⟨rfl, rfl⟩ := trodVars_none hV
  obtain ⟨a, la, rfl, rfl, rfl⟩ := open_bytes Try.underlying22 Try.underlying5 cells5 cells22 (hval 0 22 v0 rfl rfl) h0
  clear hA0 hval0
  refine (nil_wh a (zeroB a) la rfl W).mono fun e W' ⟨he, hb⟩ => ?_
  subst he
  exact ⟨_, rfl, _, _, _, [], [], [], hW', trodAll_mk1 (shut_bool Try.underlying4 _), (trodAll_cons_mk (shut_bytes a la Try.underlying22 Try.underlying5 cells5 cells22) trodAll_mk0), rfl, hb.frame _, fun h => by cases h⟩

theorem nilOver : Rows.fnIsNilByClearingEachByteRow.holds Try.pinned (OpenSpec.ofChange Rows.fnIsNilByClearingEachByteSpec) :=
  OpenClaim.holds_of_wide 3 Try.f3 rfl rfl rfl rfl rfl rfl rfl ⟨rfl, rfl, rfl, rfl, rfl⟩ rfl rfl rfl rfl rfl (by kernel_rfl) Try.func3 (by kernel_rfl)
    (of_decide_eq_true (by kernel_rfl)) (by unfold Func.isWrapper; first | (rw [if_pos (by decide +kernel)]; kernel_rfl) | (rw [if_neg (by decide +kernel)]; exact ⟨rfl, rfl⟩))
    (fun os started H enc _ => nilLifted os started H enc)
end Go.Proofs.Qxb6616883a.Law

namespace Go.Proofs.Qxb6616883a
/-- The given statement. -/
theorem isNilByClearingEachByte_holds : Rows.FnIsNilByClearingEachByteSaid := Law.nilOver
end Go.Proofs.Qxb6616883a

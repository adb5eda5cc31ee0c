/-
  An array of bytes by value: opened and shut, whatever its length, over any program.
-/
import Derived.Test.Qxb6616721aRoad
import Derived.ProofKit
import Derived.OpenShut
namespace Go.Proofs.Qxb6616721a.Law
open Go.ChangeShapes Go.WideShapes Go.ChangeAt Go.RowKit
section
variable {H : Type} {enc : TypeId × Value → H} {P : Program} {W : World} {base b0 : Nat} {sp : Nat → Bool} {hd : Bool} {t e : TypeId} {n : Nat}

theorem mapM_get {α β : Type} {f : α → Option β} : ∀ (l : List α) (r : List β), r.length = l.length → (∀ (i : Nat) (x : α), l[i]? = some x → f x = r[i]?) → l.mapM f = some r
  | [], [], _, _ => rfl
  | [], _ :: _, h, _ => by simp at h
  | _ :: _, [], h, _ => by simp at h
  | a :: l, c :: r, h, hg => by
    have h0 : f a = some c := by simpa using hg 0 a rfl
    have ih := mapM_get l r (by simpa using h) (fun i x hx => by simpa using hg (i + 1) x (by simpa using hx))
    simp [List.mapM_cons, h0, ih]

theorem byte_of (z : Int) (h : (Lit.int .u8 z).wf = true) : ((UInt8.ofNat z.toNat).toNat : Int) = z := by
  have := bounds_u8 h
  rw [UInt8.toNat_ofNat']
  omega
theorem byte_wf (b : UInt8) : (Lit.int .u8 (b.toNat : Int)).wf = true := by
  have := b.toNat_lt
  simp [Lit.wf, IntKind.min, IntKind.max, IntKind.signed, IntKind.bits]
  omega

theorem open_bytes {v : Value} {d : DataW H} {p : List MemPlace} (ht : P.underlying t = some (.array n e)) (he : P.underlying e = some (.int .u8)) (hce : P.cellsOf e = 1) (hct : P.cellsOf t = n)
    (hv : Value.okWide P W .any base t v) (h : DataW.Trod enc P W b0 sp hd t v d p) :
    ∃ bs : List UInt8, bs.length = n ∧ v = .agg (rowA bs) ∧ d = .agg (bs.map fun b => .lit (.int .u8 (b.toNat : Int))) ∧ p = [] := by
  obtain ⟨cs, rfl, hsz⟩ : ∃ cs, v = .agg cs ∧ cs.size = P.cellsOf t := by
    have : ∃ cs, v = .agg cs ∧ cs.size = P.cellsOf t ∧ Row.okWide P W .any base t cs := by simpa [Value.okWide, ht] using hv
    obtain ⟨cs, h1, h2, _⟩ := this
    exact ⟨cs, h1, h2⟩
  rw [hct] at hsz
  obtain ⟨fuel, hf⟩ := h
  obtain ⟨xs, m, _, ex, _, hl, hel⟩ := DataW.trod_array ht hf
  have hcl : cs.toList.length = n := by simpa using hsz
  have key : ∀ i (hi : i < n), ∃ z : Int, cs.toList[i]? = some (.int .u8 z) ∧ xs[i]? = some (.lit (.int .u8 z), []) ∧ (Lit.int .u8 z).wf = true := by
    intro i hi
    have hE := hel i hi
    rw [hce, Nat.mul_one, List.getElem?_eq_getElem (by omega)] at hE
    obtain ⟨z, e1, e2, e3⟩ := DataW.trod_int he hE
    refine ⟨z, ?_, by rw [List.getElem?_eq_getElem (by omega), e2], e3⟩
    have h0 : ((cs.toList.drop i).take 1)[0]? = some (.int .u8 z) := by
      have e1' : (cs.toList.drop i).take 1 = [Value.int .u8 z] := e1
      rw [e1']; rfl
    simpa using h0
  refine ⟨cs.toList.map fun v => UInt8.ofNat (intOf v).toNat, by rw [List.length_map, hcl], ?_, ?_, ?_⟩
  · congr 1
    apply Array.toList_inj.1
    rw [rowA, List.toList_toArray, List.map_map]
    apply List.ext_getElem?
    intro i
    rw [List.getElem?_map]
    by_cases hi : i < n
    · obtain ⟨z, h1, _, h3⟩ := key i hi
      rw [h1]
      show _ = some _
      rw [Function.comp, intOf, byte_of z h3]
    · rw [List.getElem?_eq_none (by omega)]; rfl
  · rw [(Prod.mk.inj ex).1]
    congr 1
    rw [List.map_map]
    apply List.ext_getElem?
    intro i
    rw [List.getElem?_map, List.getElem?_map]
    by_cases hi : i < n
    · obtain ⟨z, h1, h2, h3⟩ := key i hi
      rw [h1, h2]
      show some _ = some _
      rw [Function.comp, intOf, byte_of z h3]
    · rw [List.getElem?_eq_none (by omega), List.getElem?_eq_none (by omega)]; rfl
  · rw [(Prod.mk.inj ex).2, List.flatMap_eq_nil_iff]
    intro x hx
    obtain ⟨i, hi, rfl⟩ := List.getElem_of_mem hx
    obtain ⟨z, _, h2, _⟩ := key i (by omega)
    rw [List.getElem?_eq_getElem hi] at h2
    rw [Option.some.inj h2]

theorem shut_bytes (bs : List UInt8) (hn : bs.length = n) (ht : P.underlying t = some (.array n e)) (he : P.underlying e = some (.int .u8)) (hce : P.cellsOf e = 1) (hct : P.cellsOf t = n) :
    DataW.Trod enc P W b0 sp hd t (.agg (rowA bs)) (.agg (bs.map fun b => .lit (.int .u8 (b.toNat : Int)))) [] := by
  refine ⟨2, ?_⟩
  have hc : (Value.agg (rowA bs)).cells.toList = bs.map fun b => Value.int .u8 (b.toNat : Int) := by simp [Value.cells, rowA]
  rw [hc]
  have hp : (List.range n).mapM (fun i => DataW.trod enc P W b0 sp hd 1 e (((bs.map fun b => Value.int .u8 (b.toNat : Int)).drop (i * P.cellsOf e)).take (P.cellsOf e))) = some (bs.map fun b => ((DataW.lit (.int .u8 (b.toNat : Int)) : DataW H), ([] : List MemPlace))) := by
    apply mapM_get
    · rw [List.length_map, List.length_range, hn]
    · intro i x hx
      obtain ⟨hi, hxi⟩ := List.getElem?_eq_some_iff.1 hx
      have hin : i < n := by simpa using hi
      have hix : i = x := by simpa using hxi
      subst hix
      have hib : i < bs.length := by omega
      have e1 : ((bs.map fun b => Value.int .u8 (b.toNat : Int)).drop (i * P.cellsOf e)).take (P.cellsOf e) = [Value.int .u8 ((bs[i]'hib).toNat : Int)] := by
        rw [hce, Nat.mul_one, List.drop_eq_getElem_cons (by simpa using hib)]
        simp
      rw [e1, List.getElem?_map, List.getElem?_eq_getElem hib]
      simp [DataW.trod, he, byte_wf]
  unfold DataW.trod
  rw [ht]
  have hl : (bs.map fun b => Value.int .u8 (b.toNat : Int)).length = P.cellsOf t := by rw [List.length_map, hn, hct]
  split <;> simp_all
end
end Go.Proofs.Qxb6616721a.Law

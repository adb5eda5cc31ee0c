/-
  The plain law: the hexadecimal text of two byte lists of one length compares as the byte lists do. No Go in sight.
-/
import Derived.Lib.HexFns
namespace Go.Proofs.Qxb6616721a.Law
open Go.Lib

/-- The code of the hexadecimal digit of d. -/
def dgN (d : Nat) : Nat := if d < 10 then 48 + d else 87 + d

theorem digit_table : (List.range 16).all (fun d => (Hx.digit d).toNat == dgN d) = true := by decide +kernel
theorem digit_toNat (d : Nat) (h : d < 16) : (Hx.digit d).toNat = dgN d :=
  eq_of_beq (List.all_eq_true.1 digit_table d (List.mem_range.2 h))

theorem dgN_lt {p q : Nat} (hp : p < 16) (hq : q < 16) : dgN p < dgN q ↔ p < q := by
  unfold dgN; split <;> split <;> omega

/-- Three-way comparison, byte by byte. -/
def cmpL : List UInt8 → List UInt8 → Int
  | [], [] => 0
  | [], _ :: _ => -1
  | _ :: _, [] => 1
  | a :: x, b :: y => if a.toNat < b.toNat then -1 else if b.toNat < a.toNat then 1 else cmpL x y

theorem cmpL_encode : ∀ (x y : List UInt8), x.length = y.length → cmpL (Hx.encode x) (Hx.encode y) = cmpL x y
  | [], [], _ => rfl
  | [], _ :: _, h => by simp at h
  | _ :: _, [], h => by simp at h
  | a :: x, b :: y, h => by
    have ih := cmpL_encode x y (by simpa using h)
    have ha := a.toNat_lt
    have hb := b.toNat_lt
    rw [Hx.encode_cons, Hx.encode_cons]
    simp only [cmpL]
    rw [digit_toNat _ (by omega), digit_toNat _ (by omega), digit_toNat _ (by omega), digit_toNat _ (by omega)]
    simp only [dgN_lt (show a.toNat / 16 < 16 by omega) (show b.toNat / 16 < 16 by omega), dgN_lt (show b.toNat / 16 < 16 by omega) (show a.toNat / 16 < 16 by omega),
      dgN_lt (show a.toNat % 16 < 16 by omega) (show b.toNat % 16 < 16 by omega), dgN_lt (show b.toNat % 16 < 16 by omega) (show a.toNat % 16 < 16 by omega)]
    rw [ih]
    repeat' split
    all_goals first | rfl | omega

theorem cmpL_drop_eq (x y : List UInt8) (k : Nat) (hx : k < x.length) (hy : k < y.length) (h : x[k].toNat = y[k].toNat) :
    cmpL (x.drop k) (y.drop k) = cmpL (x.drop (k + 1)) (y.drop (k + 1)) := by
  rw [List.drop_eq_getElem_cons hx, List.drop_eq_getElem_cons hy]
  simp only [cmpL]
  rw [if_neg (by omega), if_neg (by omega)]

theorem cmpL_drop_lt (x y : List UInt8) (k : Nat) (hx : k < x.length) (hy : k < y.length) (h : x[k].toNat < y[k].toNat) :
    cmpL (x.drop k) (y.drop k) = -1 := by
  rw [List.drop_eq_getElem_cons hx, List.drop_eq_getElem_cons hy]
  simp only [cmpL]
  rw [if_pos h]

theorem cmpL_drop_gt (x y : List UInt8) (k : Nat) (hx : k < x.length) (hy : k < y.length) (h : y[k].toNat < x[k].toNat) :
    cmpL (x.drop k) (y.drop k) = 1 := by
  rw [List.drop_eq_getElem_cons hx, List.drop_eq_getElem_cons hy]
  simp only [cmpL]
  rw [if_neg (by omega), if_pos h]

theorem cmpL_drop_end (x y : List UInt8) (k : Nat) (hx : x.length ≤ k) (hy : y.length ≤ k) : cmpL (x.drop k) (y.drop k) = 0 := by
  rw [List.drop_of_length_le hx, List.drop_of_length_le hy]; rfl

end Go.Proofs.Qxb6616721a.Law

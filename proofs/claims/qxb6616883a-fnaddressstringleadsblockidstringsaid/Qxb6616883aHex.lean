/-
  zzHexDigit, zzHexOf, Address.String, BlockID.String, zzAllZero32: each computes a plain function.
-/
import Derived.Test.Qxb6616883aBase
import Derived.Test.Qxb6616883aShelf
import Derived.Laws.BytesArg
namespace Go.Proofs.Qxb6616883a.Law
open Go.RowKit Go.Lib

/-- The code of the hexadecimal digit of d. -/
def dgN (d : Nat) : Nat := if d < 10 then 48 + d else 87 + d
theorem digit_table : (List.range 16).all (fun d => (Hx.digit d).toNat == dgN d) = true := by decide +kernel
theorem digit_toNat (d : Nat) (h : d < 16) : (Hx.digit d).toNat = dgN d :=
  eq_of_beq (List.all_eq_true.1 digit_table d (List.mem_range.2 h))

set_option maxHeartbeats 400000 in
theorem dig_lo (c : Int) (h0 : 0 ≤ c) (h1 : c < 10) (w : World) :
    Calls Try.prog 16 #[.int .u8 c] w fun e w' => e = .returned (.int .u8 (48 + c)) ∧ w' = w := by
  go_enter Try.func16, Try.ntmps16
  go_wp2
  go_ret
  exact ⟨rfl, rfl⟩
set_option maxHeartbeats 400000 in
theorem dig_hi (c : Int) (h0 : 10 ≤ c) (h1 : c < 16) (w : World) :
    Calls Try.prog 16 #[.int .u8 c] w fun e w' => e = .returned (.int .u8 (97 + (c - 10))) ∧ w' = w := by
  go_enter Try.func16, Try.ntmps16
  go_wp2
  go_ret
  exact ⟨rfl, rfl⟩
theorem dig_any (c : Int) (d : Nat) (hd : d < 16) (h : Hid (c = (d : Int))) (w : World) :
    Calls Try.prog 16 #[.int .u8 c] w fun e w' => e = .returned (.int .u8 ((Hx.digit d).toNat : Int)) ∧ w' = w := by
  have hc := h.out
  rw [digit_toNat d hd]
  unfold dgN
  by_cases hl : d < 10
  · have := dig_lo c (by omega) (by omega) w
    rw [if_pos hl]
    rwa [show 48 + c = ((48 + d : Nat) : Int) by omega] at this
  · have := dig_hi c (by omega) (by omega) w
    rw [if_neg hl]
    rwa [show 97 + (c - 10) = ((87 + d : Nat) : Int) by omega] at this

/-- The hexadecimal text. -/
def txt (l : List UInt8) : ByteArray := ⟨(Hx.encode l).toArray⟩

set_option maxHeartbeats 400000 in
theorem hexOf_any (b off n c : Nat) (l : List UInt8) (w : World) (hn : n ≤ 32) (hl : Hid (l.length = n)) (hb : b < w.heap.size)
    (hcell : Hid (∀ i (h : i < l.length), w.cell? ⟨b, off + i, none⟩ = some (.int .u8 ((l[i]'h).toNat : Int)))) :
    Calls Try.prog 9 #[.slice (some ⟨b, off, none⟩) n c] w fun e w' => e = .returned (.string (txt l)) ∧ Below w.heap.size w w' := by
  obtain ⟨n2, hn2⟩ : ∃ m : Nat, 2 * n = m := ⟨_, rfl⟩
  have hmk : ∀ w : World, (Instr.makeSlice 32 (.int .i64 (2 * (n : Int))) (.int .i64 (2 * (n : Int)))).run Try.prog w = .ok (.slice (some ⟨w.heap.size, 0, none⟩) n2 n2) (w.alloc (.cells (madeCells #[.int .u8 0] n2) 5)) := fun w => by
    have := run_make_row' (P := Try.prog) 32 5 (.int .u8 0) 1 Try.underlying32 (by kernel_rfl) rfl .i64 .i64 n2 (by omega) (by omega) w
    rwa [show (n2 : Int) = 2 * (n : Int) by omega] at this
  go_enter Try.func9, Try.ntmps9
  go_wp2_with fail
  clear hmk
  go_loopw [4] (fun i wr => ∃ k : Nat, k ≤ n ∧ i = .int .i64 k ∧ Hid (wr.rowIs w.heap.size 5 n2 (Hx.row (fun _ => .int .u8 0) 0 l k)) ∧ Hid (Below w.heap.size w wr)) (fun i _ => n - (RowKit.intOf i).toNat)
  case atStart => exact ⟨0, Nat.zero_le _, rfl, (World.rowIs_made w (.int .u8 0) n2 5).congr (fun j _ => Hx.row_zero (fun _ => .int .u8 0) 0 l j), (Below.refl _ w).alloc (Nat.le_refl _) _⟩
  case round =>
    obtain ⟨k, hk, rfl, HR, HB⟩ := hrel
    by_cases hlt : k < n
    · have kl : k < l.length := by rw [hl.out]; exact hlt
      obtain ⟨p, hp⟩ : ∃ p : Nat, (l[k]'kl).toNat = p := ⟨_, rfl⟩
      have hp256 : p < 256 := by have := (l[k]'kl).toNat_lt; omega
      have hc : wr.cell? ⟨b, off + k, none⟩ = some (.int .u8 (p : Int)) := by rw [HB.out.cell (p := ⟨b, off + k, none⟩) hb, hcell.out k kl, hp]
      have HP := hide hp
      clear hp
      have f1 : wr.frozen? ⟨w.heap.size, 2 * k, none⟩ = false := HR.out.frozen _
      have g1 : wr.cell? ⟨w.heap.size, 2 * k, none⟩ = some (Hx.row (fun _ => .int .u8 0) 0 l k (2 * k)) := HR.out.cell (by omega)
      have f2 : ∀ v, (wr.setCell ⟨w.heap.size, 2 * k, none⟩ v).frozen? ⟨w.heap.size, 2 * k + 1, none⟩ = false := fun v => (HR.out.set _ v).frozen _
      have g2 : ∀ v, (wr.setCell ⟨w.heap.size, 2 * k, none⟩ v).cell? ⟨w.heap.size, 2 * k + 1, none⟩ = some (Hx.row (fun _ => .int .u8 0) 0 l k (2 * k + 1)) := fun v => by
        have := (HR.out.set (2 * k) v).cell (i := 2 * k + 1) (by omega)
        rwa [if_neg (by omega)] at this
      have HS : Hid (∀ j, (if j = 2 * k + 1 then Value.int .u8 ((Hx.digit (p % 16)).toNat : Int) else if j = 2 * k then Value.int .u8 ((Hx.digit (p / 16)).toNat : Int) else Hx.row (fun _ => .int .u8 0) 0 l k j) = Hx.row (fun _ => .int .u8 0) 0 l (k + 1) j) := fun j => by
        have := Hx.row_step (fun _ => .int .u8 0) 0 l k _ (List.getElem?_eq_getElem kl) j
        rwa [Nat.zero_add, Nat.zero_add, HP.out] at this
      clear HP
      go_wp2_with fail
      refine (dig_any _ (p / 16) (by omega) (by show _ = _; omega) _).mono ?_
      rintro e w1 ⟨rfl, rfl⟩
      go_wp2_with fail
      refine (dig_any _ (p % 16) (by omega) (by show _ = _; omega) _).mono ?_
      rintro e w2 ⟨rfl, hw2⟩
      subst hw2
      go_wp2_with fail
      go_roundw
      case rel =>
        refine ⟨k + 1, by omega, by go_num, ((HR.out.set _ _).set _ _).congr (fun j _ => HS.out j), (HB.out.setCell (Nat.le_refl _) _).setCell (Nat.le_refl _) _⟩
      case measure => simp [RowKit.intOf]; omega
    · have hcv : (convert 32 9 (.slice (some ⟨w.heap.size, 0, none⟩) n2 n2)).run Try.prog wr = .ok (.string (txt l)) wr := by
        rw [run_convert_bytes_arg (P := Try.prog) wr 32 5 Try.underlying32 Try.underlying5 w.heap.size 0 n2 n2 (Hx.nums l) (by rw [Hx.nums_length, hl.out]; omega) (fun i hi => by rw [Nat.zero_add, HR.out.cell hi, Hx.row_in _ _ _ _ (by omega)]) 9 Try.underlying9, Hx.strOfNums_nums]
        rfl
      go_wp2_with fail
      go_ret
      exact ⟨rfl, HB.out⟩
end Go.Proofs.Qxb6616883a.Law

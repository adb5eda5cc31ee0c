/-
  FnBreachStringSplitsBackAndIsInjective: the plain law, the walk.
-/
import Derived.Test.Qxb6617712aLeaf
namespace Go.Proofs.Qxb6617712a.Law
open Go.RowKit

/-! ### the early returns -/
set_option maxHeartbeats 400000 in
theorem main_big (a b c d : ByteArray) (w : World) (ha : a.size ≤ 9223372036854775807) (hb : b.size ≤ 9223372036854775807) (hc : c.size ≤ 9223372036854775807) (hd : d.size ≤ 9223372036854775807) (h : 1048576 < a.size + b.size + c.size + d.size) :
    Calls Try.prog 3 #[.string a, .string b, .string c, .string d] w fun e w' => e = .returned (.bool true) ∧ Below w.heap.size w w' := by
  go_enter Try.func3, Try.ntmps3
  go_wp2_with fail
  refine (bytes_no a b c d _ ha hb hc hd h).mono ?_
  rintro e w1 ⟨rfl, rfl⟩
  go_wp2_with fail
  go_ret
  exact ⟨rfl, Below.refl _ _⟩
set_option maxHeartbeats 400000 in
theorem main_mid (a b c d : ByteArray) (w : World) (h : a.size + b.size + c.size + d.size ≤ 1048576) (hl : 262144 < a.size ∨ 262144 < b.size ∨ 262144 < c.size ∨ 262144 < d.size) :
    Calls Try.prog 3 #[.string a, .string b, .string c, .string d] w fun e w' => e = .returned (.bool true) ∧ Below w.heap.size w w' := by
  by_cases h1 : 262144 < a.size
  · go_enter Try.func3, Try.ntmps3
    go_wp2_with fail
    refine (bytes_yes a b c d _ h).mono ?_
    rintro e w1 ⟨rfl, rfl⟩
    go_wp2_with fail
    go_ret
    exact ⟨rfl, Below.refl _ _⟩
  by_cases h2 : 262144 < b.size
  · go_enter Try.func3, Try.ntmps3
    go_wp2_with fail
    refine (bytes_yes a b c d _ h).mono ?_
    rintro e w1 ⟨rfl, rfl⟩
    go_wp2_with fail
    go_ret
    exact ⟨rfl, Below.refl _ _⟩
  by_cases h3 : 262144 < c.size
  · go_enter Try.func3, Try.ntmps3
    go_wp2_with fail
    refine (bytes_yes a b c d _ h).mono ?_
    rintro e w1 ⟨rfl, rfl⟩
    go_wp2_with fail
    go_ret
    exact ⟨rfl, Below.refl _ _⟩
  have h4 : 262144 < d.size := by omega
  go_enter Try.func3, Try.ntmps3
  go_wp2_with fail
  refine (bytes_yes a b c d _ h).mono ?_
  rintro e w1 ⟨rfl, rfl⟩
  go_wp2_with fail
  go_ret
  exact ⟨rfl, Below.refl _ _⟩
set_option maxHeartbeats 400000 in
theorem main_space (a b c d : ByteArray) (w : World) (h1 : a.size ≤ 262144) (h2 : b.size ≤ 262144) (h3 : c.size ≤ 262144) (h4 : d.size ≤ 262144) (hsp : spB a = true ∨ spB c = true) :
    Calls Try.prog 3 #[.string a, .string b, .string c, .string d] w fun e w' => e = .returned (.bool true) ∧ Below w.heap.size w w' := by
  have h : a.size + b.size + c.size + d.size ≤ 1048576 := by omega
  cases hA : spB a with
  | true =>
    have HA := hide hA
    clear hA hsp
    go_enter Try.func3, Try.ntmps3
    go_wp2_with fail
    refine (bytes_yes a b c d _ h).mono ?_
    rintro e w1 ⟨rfl, rfl⟩
    go_wp2_with fail
    refine (has_at a true HA _ (by omega)).mono ?_
    rintro e w2 ⟨rfl, rfl⟩
    go_wp2_with fail
    go_ret
    exact ⟨rfl, Below.refl _ _⟩
  | false =>
    have HA := hide hA
    have HC : Hid (spB c = true) := by
      rcases hsp with h' | h'
      · rw [hA] at h'; cases h'
      · exact h'
    clear hA hsp
    go_enter Try.func3, Try.ntmps3
    go_wp2_with fail
    refine (bytes_yes a b c d _ h).mono ?_
    rintro e w1 ⟨rfl, rfl⟩
    go_wp2_with fail
    refine (has_at a false HA _ (by omega)).mono ?_
    rintro e w2 ⟨rfl, rfl⟩
    go_wp2_with fail
    refine (has_at c true HC _ (by omega)).mono ?_
    rintro e w3 ⟨rfl, rfl⟩
    go_wp2_with fail
    go_ret
    exact ⟨rfl, Below.refl _ _⟩

/-! ### the plain law -/
theorem line_size (r f : ByteArray) : (line r f).size = r.size + 1 + f.size := by
  show (line r f).data.size = _
  simp [line, ByteArray.data_append]
theorem line_toList (r f : ByteArray) : (line r f).data.toList = r.data.toList ++ 32 :: f.data.toList := by
  simp [line, ByteArray.data_append]
theorem get_toList (s : ByteArray) (k : Nat) (h : k < s.size) : s.data.toList[k]? = some (s[k]'h) := by
  have h' : k < s.data.toList.length := by simpa using h
  rw [List.getElem?_eq_getElem h']
  rfl
theorem line_mid (r f : ByteArray) (h : r.size < (line r f).size) : ((line r f)[r.size]'h).toNat = 32 := by
  have e := get_toList (line r f) r.size h
  rw [line_toList, List.getElem?_append_right (by simp)] at e
  simp at e
  rw [← e]; rfl
theorem line_low (r f : ByteArray) (hr : spB r = false) : ∀ j (h : j < (line r f).size), j < r.size → ((line r f)[j]'h).toNat ≠ 32 := fun j h hj => by
  have e := get_toList (line r f) j h
  rw [line_toList, List.getElem?_append_left (by simpa using hj), get_toList r j hj] at e
  rw [← Option.some.inj e]
  unfold spB at hr
  rw [decide_eq_false_iff_not] at hr
  exact fun q => hr ⟨j, hj, q⟩
theorem no32 (r : ByteArray) (hr : spB r = false) : (32 : UInt8) ∉ r.data.toList := fun hm => by
  obtain ⟨j, hj, e⟩ := List.getElem_of_mem hm
  unfold spB at hr
  rw [decide_eq_false_iff_not] at hr
  have hj' : j < r.size := by simpa using hj
  refine hr ⟨j, hj', ?_⟩
  have := get_toList r j hj'
  rw [List.getElem?_eq_getElem hj, e] at this
  rw [← Option.some.inj this]; rfl
theorem split_list : ∀ (r r' f f' : List UInt8), (32 : UInt8) ∉ r → (32 : UInt8) ∉ r' → r ++ 32 :: f = r' ++ 32 :: f' → r = r' ∧ f = f'
  | [], [], f, f', _, _, h => ⟨rfl, by simpa using h⟩
  | [], b :: r', f, f', _, h2, h => by
    simp at h
    exact absurd (by rw [← h.1]; exact List.mem_cons_self ..) h2
  | a :: r, [], f, f', h1, _, h => by
    simp at h
    exact absurd (by rw [h.1]; exact List.mem_cons_self ..) h1
  | a :: r, b :: r', f, f', h1, h2, h => by
    simp at h
    obtain ⟨rfl, h⟩ := h
    obtain ⟨rfl, rfl⟩ := split_list r r' f f' (fun m => h1 (List.mem_cons_of_mem _ m)) (fun m => h2 (List.mem_cons_of_mem _ m)) h
    exact ⟨rfl, rfl⟩
theorem line_inj (r f r' f' : ByteArray) (hr : spB r = false) (hr' : spB r' = false) (h : line r f = line r' f') : r = r' ∧ f = f' := by
  have e : (line r f).data.toList = (line r' f').data.toList := by rw [h]
  rw [line_toList, line_toList] at e
  obtain ⟨e1, e2⟩ := split_list _ _ _ _ (no32 r hr) (no32 r' hr') e
  exact ⟨ByteArray.ext (Array.toList_inj.1 e1), ByteArray.ext (Array.toList_inj.1 e2)⟩

theorem line_left (r f : ByteArray) : (line r f).extract 0 r.size = r := by
  apply ByteArray.ext
  apply Array.toList_inj.1
  rw [ByteArray.data_extract, Array.toList_extract, line_toList]
  simp [List.extract_eq_take_drop]
theorem line_right (r f : ByteArray) : (line r f).extract (r.size + 1) (r.size + 1 + f.size) = f := by
  apply ByteArray.ext
  apply Array.toList_inj.1
  rw [ByteArray.data_extract, Array.toList_extract, line_toList]
  simp [List.extract_eq_take_drop, List.drop_append]
  have e1 : List.drop (r.size + 1) r.data.toList = [] := List.drop_of_length_le (by simp)
  rw [e1, List.nil_append]
  exact List.take_of_length_le (by simp)
theorem ne_toList (x y : ByteArray) (h : x ≠ y) : (x.toList == y.toList) = false := by
  rw [ByteArray.toList_eq, ByteArray.toList_eq]
  exact beq_eq_false_iff_ne.2 (fun e => h (ByteArray.ext (Array.toList_inj.1 e)))

/-- The walk, told what the two comparisons at the end come to. -/
theorem main_law (a b c d : ByteArray) (HA : spB a = false) (HC : spB c = false) :
    (a = c ∧ b = d) ∨ (a = c ∧ b ≠ d ∧ line a b ≠ line c d) ∨ (a ≠ c ∧ line a b ≠ line c d) := by
  by_cases h1 : a = c
  · by_cases h2 : b = d
    · exact .inl ⟨h1, h2⟩
    · exact .inr (.inl ⟨h1, h2, fun e => h2 (line_inj a b c d HA HC e).2⟩)
  · exact .inr (.inr ⟨h1, fun e => h1 (line_inj a b c d HA HC e).1⟩)

set_option maxHeartbeats 1000000 in
theorem main_same (a b : ByteArray) (w : World) (h1 : a.size ≤ 262144) (h2 : b.size ≤ 262144) (HA : Hid (spB a = false)) :
    Calls Try.prog 3 #[.string a, .string b, .string a, .string b] w fun e w' => e = .returned (.bool true) ∧ Below w.heap.size w w' := by
  have h : a.size + b.size + a.size + b.size ≤ 1048576 := by omega
  have lz := line_size a b
  have lm : a.size < (line a b).size := by omega
  have x1 := line_left a b
  have x2 := line_right a b
  go_enter Try.func3, Try.ntmps3
  go_wp2_with fail
  refine (bytes_yes a b a b _ h).mono ?_
  rintro e w1 ⟨rfl, rfl⟩
  go_wp2_with fail
  refine (has_at a false HA _ (by omega)).mono ?_
  rintro e w2 ⟨rfl, rfl⟩
  go_wp2_with fail
  refine (has_at a false HA _ (by omega)).mono ?_
  rintro e w3 ⟨rfl, rfl⟩
  go_wp2_with fail
  refine (string_any a b _ (by omega) (by omega)).mono ?_
  rintro e w4 ⟨rfl, rfl⟩
  go_wp2_with fail
  refine (string_any a b _ (by omega) (by omega)).mono ?_
  rintro e w5 ⟨rfl, rfl⟩
  go_wp2_with fail
  refine (first_at (line a b) a.size _ (by omega) lm (line_mid a b lm) (line_low a b HA.out)).mono ?_
  rintro e w6 ⟨rfl, rfl⟩
  go_wp2_with fail
  go_ret
  exact ⟨rfl, ((((Below.refl _ w3).alloc (Nat.le_refl _) _).alloc (by simp) _).alloc (by simp; omega) _).alloc (by simp; omega) _⟩

set_option maxHeartbeats 1000000 in
theorem main_rule (a b c d : ByteArray) (w : World) (h1 : a.size ≤ 262144) (h2 : b.size ≤ 262144) (h3 : c.size ≤ 262144) (h4 : d.size ≤ 262144) (HA : Hid (spB a = false)) (HC : Hid (spB c = false))
    (n1 : (a.toList == c.toList) = false) (n2 : ((line a b).toList == (line c d).toList) = false) :
    Calls Try.prog 3 #[.string a, .string b, .string c, .string d] w fun e w' => e = .returned (.bool true) ∧ Below w.heap.size w w' := by
  have h : a.size + b.size + c.size + d.size ≤ 1048576 := by omega
  have lz := line_size a b
  have lm : a.size < (line a b).size := by omega
  have x1 := line_left a b
  have x2 := line_right a b
  go_enter Try.func3, Try.ntmps3
  go_wp2_with fail
  refine (bytes_yes a b c d _ h).mono ?_
  rintro e w1 ⟨rfl, rfl⟩
  go_wp2_with fail
  refine (has_at a false HA _ (by omega)).mono ?_
  rintro e w2 ⟨rfl, rfl⟩
  go_wp2_with fail
  refine (has_at c false HC _ (by omega)).mono ?_
  rintro e w3 ⟨rfl, rfl⟩
  go_wp2_with fail
  refine (string_any a b _ (by omega) (by omega)).mono ?_
  rintro e w4 ⟨rfl, rfl⟩
  go_wp2_with fail
  refine (string_any c d _ (by omega) (by omega)).mono ?_
  rintro e w5 ⟨rfl, rfl⟩
  go_wp2_with fail
  refine (first_at (line a b) a.size _ (by omega) lm (line_mid a b lm) (line_low a b HA.out)).mono ?_
  rintro e w6 ⟨rfl, rfl⟩
  go_wp2_with fail
  go_ret
  exact ⟨rfl, ((((Below.refl _ w3).alloc (Nat.le_refl _) _).alloc (by simp) _).alloc (by simp; omega) _).alloc (by simp; omega) _⟩

set_option maxHeartbeats 1000000 in
theorem main_figs (a b d : ByteArray) (w : World) (h1 : a.size ≤ 262144) (h2 : b.size ≤ 262144) (h4 : d.size ≤ 262144) (HA : Hid (spB a = false))
    (n1 : (b.toList == d.toList) = false) (n2 : ((line a b).toList == (line a d).toList) = false) :
    Calls Try.prog 3 #[.string a, .string b, .string a, .string d] w fun e w' => e = .returned (.bool true) ∧ Below w.heap.size w w' := by
  have h : a.size + b.size + a.size + d.size ≤ 1048576 := by omega
  have lz := line_size a b
  have lm : a.size < (line a b).size := by omega
  have x1 := line_left a b
  have x2 := line_right a b
  go_enter Try.func3, Try.ntmps3
  go_wp2_with fail
  refine (bytes_yes a b a d _ h).mono ?_
  rintro e w1 ⟨rfl, rfl⟩
  go_wp2_with fail
  refine (has_at a false HA _ (by omega)).mono ?_
  rintro e w2 ⟨rfl, rfl⟩
  go_wp2_with fail
  refine (has_at a false HA _ (by omega)).mono ?_
  rintro e w3 ⟨rfl, rfl⟩
  go_wp2_with fail
  refine (string_any a b _ (by omega) (by omega)).mono ?_
  rintro e w4 ⟨rfl, rfl⟩
  go_wp2_with fail
  refine (string_any a d _ (by omega) (by omega)).mono ?_
  rintro e w5 ⟨rfl, rfl⟩
  go_wp2_with fail
  refine (first_at (line a b) a.size _ (by omega) lm (line_mid a b lm) (line_low a b HA.out)).mono ?_
  rintro e w6 ⟨rfl, rfl⟩
  go_wp2_with fail
  go_ret
  exact ⟨rfl, ((((Below.refl _ w3).alloc (Nat.le_refl _) _).alloc (by simp) _).alloc (by simp; omega) _).alloc (by simp; omega) _⟩

theorem main_any (a b c d : ByteArray) (w : World) (ha : a.size ≤ maxLen) (hb : b.size ≤ maxLen) (hc : c.size ≤ maxLen) (hd : d.size ≤ maxLen) :
    Calls Try.prog 3 #[.string a, .string b, .string c, .string d] w fun e w' => e = .returned (.bool true) ∧ Below w.heap.size w w' := by
  unfold maxLen at ha hb hc hd
  by_cases h : a.size + b.size + c.size + d.size ≤ 1048576
  · by_cases hl : 262144 < a.size ∨ 262144 < b.size ∨ 262144 < c.size ∨ 262144 < d.size
    · exact main_mid a b c d w h hl
    · by_cases hsp : spB a = true ∨ spB c = true
      · exact main_space a b c d w (by omega) (by omega) (by omega) (by omega) hsp
      · have HA : spB a = false := by cases e : spB a <;> simp_all
        have HC : spB c = false := by cases e : spB c <;> simp_all
        rcases main_law a b c d HA HC with ⟨rfl, rfl⟩ | ⟨rfl, n1, n2⟩ | ⟨n1, n2⟩
        · exact main_same a b w (by omega) (by omega) HA
        · exact main_figs a b d w (by omega) (by omega) (by omega) HA (ne_toList _ _ n1) (ne_toList _ _ n2)
        · exact main_rule a b c d w (by omega) (by omega) (by omega) (by omega) HA HC (ne_toList _ _ n1) (ne_toList _ _ n2)
  · exact main_big a b c d w (by omega) (by omega) (by omega) (by omega) (by omega)
end Go.Proofs.Qxb6617712a.Law

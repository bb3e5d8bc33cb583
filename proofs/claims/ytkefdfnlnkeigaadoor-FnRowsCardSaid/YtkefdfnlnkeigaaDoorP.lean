import Derived.Test.YtkefdfnlnkeigaaDoorC
namespace Go.Proofs.YtkefdfnlnkeigaaDoor
open Go.RowKit Go.Proofs.YtkefdfnlnkeigaaDoorW.PrintWords Go.Proofs.YtkefdfnlnkeigaaDoor.PFnRows

/-! ### The law's conditions: each comes to an answer, and what a yes says -/
theorem wrap_at (i : Int) (h0 : -9223372036854775808 ≤ i) (h : i ≤ 9223372036854775807) : wrap64 i = i := by
  unfold wrap64
  omega

theorem word_l0 (s : ByteArray) (hs : s.size ≤ 2147483647) : ∀ (m i : Nat), i + m = s.size → ∃ r, spec_WordRight.l0 (m + 1) s i = some r ∧ (r = true → 0 < s.size ∧ s.size ≤ 200)
  | 0, i, h => by
    unfold spec_WordRight.l0
    rw [if_neg (by omega)]
    by_cases h0 : (s.size : Int) > 0
    · rw [if_pos h0]
      by_cases h1 : (s.size : Int) ≤ 200
      · rw [if_pos h1, if_pos h0, wrap_at _ (by omega) (by omega)]
        by_cases h2 : bt s 0 = 32
        · rw [if_pos h2]
          exact ⟨_, rfl, fun h => by cases h⟩
        · rw [if_neg h2, if_pos (by omega), if_pos (by omega)]
          exact ⟨_, rfl, fun _ => ⟨by omega, by omega⟩⟩
      · rw [if_neg h1]
        exact ⟨_, rfl, fun h => by cases h⟩
    · rw [if_neg h0]
      exact ⟨_, rfl, fun h => by cases h⟩
  | m + 1, i, h => by
    unfold spec_WordRight.l0
    rw [if_pos (by omega), if_pos (by omega)]
    by_cases h0 : bt s i < 32
    · rw [if_pos h0]
      exact ⟨_, rfl, fun h => by cases h⟩
    · rw [if_neg h0]
      by_cases h1 : bt s i > 126
      · rw [if_pos h1]
        exact ⟨_, rfl, fun h => by cases h⟩
      · rw [if_neg h1, wrap_at _ (by omega) (by omega)]
        exact word_l0 s hs m (i + 1) (by omega)
theorem word_f (s : ByteArray) (hs : s.size ≤ 2147483647) : ∃ k r, spec_WordRight.f k s = some r ∧ (r = true → 0 < s.size ∧ s.size ≤ 200) := by
  obtain ⟨r, h, h2⟩ := word_l0 s hs s.size 0 (by omega)
  exact ⟨_, r, h, h2⟩

theorem fits_l0 (xs : List ByteArray) (hl : xs.length ≤ 2147483647) : ∀ (m i : Nat), i + m = xs.length → ∃ r, laws_zzFits1.l0 (m + 1) xs xs.length i = some r ∧ (r = true → ∀ (j : Nat) (x : ByteArray), i ≤ j → xs[j]? = some x → x.size ≤ 2147483647)
  | 0, i, h => by
    unfold laws_zzFits1.l0
    rw [if_neg (by omega)]
    exact ⟨_, rfl, fun _ j x hj hx => by have := (List.getElem?_eq_some_iff.1 hx).1; omega⟩
  | m + 1, i, h => by
    unfold laws_zzFits1.l0
    rw [if_pos (by omega), if_pos (by omega), if_pos (by omega)]
    by_cases h0 : ((rdOf ByteArray.empty xs i).size : Int) > 2147483647
    · rw [if_pos h0]
      exact ⟨_, rfl, fun h => by cases h⟩
    · rw [if_neg h0, wrap_at _ (by omega) (by omega)]
      obtain ⟨r, h1, h2⟩ := fits_l0 xs hl m (i + 1) (by omega)
      refine ⟨r, h1, fun hr j x hj hx => ?_⟩
      rcases Nat.lt_or_ge i j with hij | hij
      · exact h2 hr j x hij hx
      · obtain rfl : j = i := by omega
        have : rdOf ByteArray.empty xs (j : Int) = x := by
          unfold rdOf
          rw [Int.toNat_natCast, List.getD_eq_getElem?_getD, hx]; rfl
        rw [this] at h0
        omega
theorem fits_f (xs : List ByteArray) : ∃ k r, laws_zzFits1.f k xs = some r ∧ (r = true → xs.length ≤ 2147483647 ∧ ∀ (j : Nat) (x : ByteArray), xs[j]? = some x → x.size ≤ 2147483647) := by
  by_cases h : (xs.length : Int) > 2147483647
  · refine ⟨0, false, ?_, fun h => by cases h⟩
    unfold laws_zzFits1.f
    rw [if_pos h]
  · obtain ⟨r, h1, h2⟩ := fits_l0 xs (by omega) xs.length 0 (by omega)
    refine ⟨xs.length + 1, r, ?_, fun hr => ⟨by omega, fun j x hx => h2 hr j x (Nat.zero_le _) hx⟩⟩
    unfold laws_zzFits1.f
    rw [if_neg h]
    exact h1

/-- An argument that is no list: right or not; if it is right it is one of five kinds and holds nothing besides. -/
theorem ba_nil {s : ByteArray} (h : s.toList = []) : s = ⟨#[]⟩ := by
  rw [ByteArray.toList_eq] at h
  obtain ⟨⟨l⟩⟩ := s
  have h' : l = [] := h
  rw [h']
theorem arg_j0 (k : Nat) (b : Bool) (x : S38) (hb : b = true → (x.f0 = 0 ∨ x.f0 = 3 ∨ x.f0 = 4)) (h5 : x.f0 ≠ 5) : ∃ r, spec_argumentRight.j0 (k + 1) x.f0 b x.f0 x.f1 x.f2 x.f3 = some r ∧ (r = true → Plain x) := by
  unfold spec_argumentRight.j0
  by_cases hbt : b = true
  · rw [if_pos hbt]
    have hk := hb hbt
    by_cases h1 : x.f1 = 0
    · rw [if_pos h1]
      by_cases h2 : x.f2.toList = []
      · rw [if_pos h2]
        refine ⟨_, rfl, fun hr => ⟨?_, by omega, by omega, fun _ => h1, fun _ => ba_nil h2⟩⟩
        have : (x.f3.length : Int) = 0 := by simpa using hr
        exact List.eq_nil_of_length_eq_zero (by omega)
      · rw [if_neg h2]
        exact ⟨_, rfl, fun h => by cases h⟩
    · rw [if_neg h1]
      exact ⟨_, rfl, fun h => by cases h⟩
  · rw [if_neg hbt]
    by_cases h1 : x.f0 = 1
    · rw [if_pos h1]
      by_cases h2 : x.f2.toList = []
      · rw [if_pos h2]
        refine ⟨_, rfl, fun hr => ⟨?_, by omega, by omega, fun h => absurd h1 h, fun _ => ba_nil h2⟩⟩
        have : (x.f3.length : Int) = 0 := by simpa using hr
        exact List.eq_nil_of_length_eq_zero (by omega)
      · rw [if_neg h2]
        exact ⟨_, rfl, fun h => by cases h⟩
    · rw [if_neg h1]
      by_cases h2 : x.f0 = 2
      · rw [if_pos h2]
        by_cases h3 : x.f1 = 0
        · rw [if_pos h3]
          by_cases h4 : (x.f3.length : Int) = 0
          · rw [if_pos h4]
            exact ⟨_, rfl, fun _ => ⟨List.eq_nil_of_length_eq_zero (by omega), by omega, by omega, fun _ => h3, fun h => absurd h2 h⟩⟩
          · rw [if_neg h4]
            exact ⟨_, rfl, fun h => by cases h⟩
        · rw [if_neg h3]
          exact ⟨_, rfl, fun h => by cases h⟩
      · rw [if_neg h2, if_neg h5]
        exact ⟨_, rfl, fun h => by cases h⟩
theorem arg_f (k : Nat) (x : S38) (h5 : x.f0 ≠ 5) : ∃ r, spec_argumentRight.f (k + 2) x.f0 x.f1 x.f2 x.f3 = some r ∧ (r = true → Plain x) := by
  unfold spec_argumentRight.f
  split
  · exact arg_j0 k _ x (fun _ => by omega) h5
  split
  · exact arg_j0 k _ x (fun _ => by omega) h5
  · exact arg_j0 k _ x (fun h => by have : x.f0 = 4 := by simpa using h
                                    omega) h5
theorem values_l0 (xs : List S38) (hl : xs.length ≤ 2147483647) (h5 : ∀ x ∈ xs, x.f0 ≠ 5) : ∀ (m i : Nat), i + m = xs.length → ∃ r, spec_valuesRight.l0 (m + 3) xs i = some r ∧ (r = true → ∀ (j : Nat) (x : S38), i ≤ j → xs[j]? = some x → Plain x)
  | 0, i, h => by
    unfold spec_valuesRight.l0
    rw [if_neg (by omega)]
    exact ⟨_, rfl, fun _ j x hj hx => by have := (List.getElem?_eq_some_iff.1 hx).1; omega⟩
  | m + 1, i, h => by
    unfold spec_valuesRight.l0
    have hlt : i < xs.length := by omega
    rw [if_pos (by omega), if_pos (by omega), rd_T38_at xs i hlt]
    obtain ⟨r, h1, h2⟩ := arg_f (m + 1) xs[i] (h5 _ (List.getElem_mem hlt))
    rw [h1, Option.bind_some]
    by_cases hr : r = true
    · rw [if_pos hr, wrap_at _ (by omega) (by omega)]
      obtain ⟨r', h3, h4⟩ := values_l0 xs hl h5 m (i + 1) (by omega)
      refine ⟨r', h3, fun hr' j x hj hx => ?_⟩
      rcases Nat.lt_or_ge i j with hij | hij
      · exact h4 hr' j x hij hx
      · obtain rfl : j = i := by omega
        rw [List.getElem?_eq_getElem hlt] at hx
        injection hx with hx
        exact hx ▸ h2 hr
    · rw [if_neg hr]
      exact ⟨_, rfl, fun h => by cases h⟩
theorem plain_l0 (xs : List S38) (hl : xs.length ≤ 2147483647) : ∀ (m i : Nat), i + m = xs.length → (∀ (j : Nat) (x : S38), j < i → xs[j]? = some x → x.f0 ≠ 5) → ∃ r, spec_PlainValues.l0 (m + xs.length + 4) xs i = some r ∧ (r = true → ∀ x ∈ xs, Plain x)
  | 0, i, h, hb => by
    unfold spec_PlainValues.l0
    rw [if_neg (by omega)]
    obtain ⟨r, h1, h2⟩ := values_l0 xs hl (fun x hx => by
      obtain ⟨j, hj, rfl⟩ := List.getElem_of_mem hx
      exact hb j _ (by omega) (List.getElem?_eq_getElem hj)) xs.length 0 (by omega)
    refine ⟨r, ?_, fun hr x hx => ?_⟩
    · unfold spec_valuesRight.f
      rw [show 0 + xs.length + 3 = xs.length + 3 from by omega]
      have h1' : spec_valuesRight.l0 (xs.length + 3) xs 0 = some r := h1
      rw [h1']; rfl
    · obtain ⟨j, hj, rfl⟩ := List.getElem_of_mem hx
      exact h2 hr j _ (Nat.zero_le _) (List.getElem?_eq_getElem hj)
  | m + 1, i, h, hb => by
    unfold spec_PlainValues.l0
    have hlt : i < xs.length := by omega
    rw [if_pos (by omega), if_pos (by omega), rd_T38_at xs i hlt]
    by_cases h5 : xs[i].f0 = 5
    · rw [if_pos h5]
      exact ⟨_, rfl, fun h => by cases h⟩
    · rw [if_neg h5, wrap_at _ (by omega) (by omega)]
      have := plain_l0 xs hl m (i + 1) (by omega) (fun j x hj hx => by
        rcases Nat.lt_or_ge j i with hij | hij
        · exact hb j x hij hx
        · obtain rfl : j = i := by omega
          rw [List.getElem?_eq_getElem hlt] at hx
          injection hx with hx
          exact hx ▸ h5)
      rw [show m + 1 + xs.length + 3 = m + xs.length + 4 from by omega]
      exact this
theorem plain_f (xs : List S38) (hl : xs.length ≤ 2147483647) : ∃ k r, spec_PlainValues.f k xs = some r ∧ (r = true → ∀ x ∈ xs, Plain x) := by
  obtain ⟨r, h1, h2⟩ := plain_l0 xs hl xs.length 0 (by omega) (fun j x hj => by omega)
  exact ⟨_, r, h1, h2⟩
end Go.Proofs.YtkefdfnlnkeigaaDoor

import Derived.Test.YtkefdfnlnkeigaaDoorQ
namespace Go.Proofs.YtkefdfnlnkeigaaDoor
open Go.RowKit Go.Proofs.YtkefdfnlnkeigaaDoorW.PrintWords Go.Proofs.YtkefdfnlnkeigaaDoor.PFnRows

theorem fold_vals (rows : List (List S38)) : ∀ (st : St), (rows.map Do.vals).foldl ap st = ⟨st.tbl, st.cols, st.rows ++ rows⟩ := by
  induction rows with
  | nil => intro st; simp
  | cons xs rows ih =>
    intro st
    rw [List.map_cons, List.foldl_cons, ih]
    simp [ap]
theorem fold_ds (table : ByteArray) (cols : List ByteArray) (rows : List (List S38)) : (dsOf table cols rows).foldl ap ⟨⟨#[]⟩, [], []⟩ = ⟨table, cols, rows⟩ := by
  unfold dsOf
  rw [List.foldl_cons, List.foldl_cons, fold_vals]
  simp [ap]
theorem fold_le (ds : List Do) : ∀ (st : St), st.cols.length ≤ (ds.foldl ap st).cols.length ∧ st.rows.length ≤ (ds.foldl ap st).rows.length := by
  induction ds with
  | nil => intro st; exact ⟨Nat.le_refl _, Nat.le_refl _⟩
  | cons d ds ih =>
    intro st
    have h := ih (ap st d)
    rw [List.foldl_cons]
    have h2 : st.cols.length ≤ (ap st d).cols.length ∧ st.rows.length ≤ (ap st d).rows.length := by
      cases d <;> simp [ap]
    exact ⟨Nat.le_trans h2.1 h.1, Nat.le_trans h2.2 h.2⟩
theorem fold_take (ds : List Do) (st : St) (j : Nat) : ((ds.take j).foldl ap st).cols.length ≤ (ds.foldl ap st).cols.length ∧ ((ds.take j).foldl ap st).rows.length ≤ (ds.foldl ap st).rows.length := by
  have h : ds.foldl ap st = (ds.drop j).foldl ap ((ds.take j).foldl ap st) := by rw [← List.foldl_append, List.take_append_drop]
  rw [h]
  exact fold_le _ _
theorem names_le (cols : List ByteArray) (h : ∀ x ∈ cols, x.size ≤ 200) (hl : cols.length ≤ 20) : (Lib.join (cols.map (·.data.toList)) [44]).length ≤ 4020 := by
  have := join_le2 (cols.map (·.data.toList)) 200 (fun x hx => by
    obtain ⟨y, hy, rfl⟩ := List.mem_map.1 hx
    exact h y hy)
  rw [List.length_map] at this
  omega
theorem flat20 {α : Type} : ∀ (rows : List (List α)), (∀ xs ∈ rows, xs.length ≤ 20) → rows.flatten.length ≤ 20 * rows.length
  | [], _ => by simp
  | xs :: rows, h => by
    have h1 := h xs (by simp)
    have h2 := flat20 rows (fun ys hy => h ys (by simp [hy]))
    simp only [List.flatten_cons, List.length_append, List.length_cons]
    omega
theorem good_fits {table : ByteArray} {cols : List ByteArray} {rows : List (List S38)} (hG : GoodRows rows) (hr : rows.length ≤ 20) (hne : rows ≠ []) (ht0 : 0 < table.size) (ht : table.size ≤ 200) (hc : cols.length ≤ 20) (hcs : ∀ x ∈ cols, x.size ≤ 200) : Fits ⟨table, cols, rows⟩ := by
  have hfl := flat20 rows (fun xs hx => (hG xs hx).2.1)
  refine ⟨by simp only; omega, by simp only; omega, hne, fun xs hx => by have := (hG xs hx).2.1; omega, ht0, by simp only; omega, Nat.le_trans (names_le cols hcs hc) (by decide), by simp only; omega, fun x hx => ?_⟩
  obtain ⟨xs, hxs, hx⟩ := List.mem_flatten.1 hx
  exact (hG xs hxs).2.2 x hx
theorem ba_ext {a b : ByteArray} (h : a.data.toList = b.data.toList) : a = b := by
  obtain ⟨⟨a⟩⟩ := a
  obtain ⟨⟨b⟩⟩ := b
  have h' : a = b := h
  rw [h']
theorem sql_eq (table nm s8 : ByteArray) (cols : List ByteArray) (rows : List (List S38)) (hn : nm.data.toList = colsText cols) (hs : s8.data.toList = wantText (rows.map (·.length))) :
    sqlOf ⟨table, cols, rows⟩ = ⟨#[73, 78, 83, 69, 82, 84, 32, 73, 78, 84, 79, 32]⟩ ++ table ++ ⟨#[32]⟩ ++ nm ++ ⟨#[86, 65, 76, 85, 69, 83, 32]⟩ ++ s8 := by
  apply ba_ext
  unfold sqlOf sqlText valuesText
  simp only [ByteArray.data_append, Array.toList_append, hn, hs, wantText, List.append_assoc]
  simp
end Go.Proofs.YtkefdfnlnkeigaaDoor

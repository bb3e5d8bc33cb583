import Derived.Test.YtkefdfnlnkeigaaDoorM
import Derived.Test.YtkefdfnlnkeigaaDoorN
import Derived.Test.YtkefdfnlnkeigaaDoorP
namespace Go.Proofs.YtkefdfnlnkeigaaDoor
open Go.RowKit Go.Proofs.YtkefdfnlnkeigaaDoorW.PrintWords Go.Proofs.YtkefdfnlnkeigaaDoor.PFnRows


theorem Tryd.info31 : (Tryd.prog.info? 31).map (fun i => (i.zero, i.size, i.bytes)) = some (some (.agg #[.int .i64 0, .string ⟨#[]⟩, .slice none 0 0, .slice none 0 0, .slice none 0 0, .slice none 0 0, .slice none 0 0, .int .u64 0]), 8, 152) := by kernel_rfl
theorem kS_M {w : World} {base : Nat} {ok : Nat → Prop} (s : Stp) : kS.M w base ok s s.cells := ⟨rfl, rfl, by
  intro u hu
  simp only [Stp.cells, List.mem_cons, List.not_mem_nil, or_false] at hu
  rcases hu with rfl | rfl | rfl | rfl | rfl | rfl | rfl | rfl <;> rfl⟩
theorem steps_two (W : World) (base : Nat) (hb : base ≤ W.heap.size) (s0 s1 : Stp) : kS.R 31 (W.alloc (.cells (s0.cells ++ s1.cells).toArray 31)) base (fun _ => True) (.slice (some ⟨W.heap.size, 0, none⟩) 2 2) [s0, s1] := by
  refine ⟨fun _ _ => trivial, s0.cells ++ s1.cells, ?_, ⟨rfl, ?_⟩⟩
  · exact World.ownsRow_lit (base := base) (e := 31) (size := 8) W (s0.cells ++ s1.cells).toArray 2 hb (by simp [maxLen]) rfl
  · intro j p hj
    match j, hj with
    | 0, hj =>
      injection hj with hj
      subst hj
      exact kS_M s0
    | 1, hj =>
      injection hj with hj
      subst hj
      exact kS_M s1
    | j + 2, hj => simp at hj
def DoesAll (w : World) (ss : List Stp) (ds : List Do) : Prop := ss.length = ds.length ∧ (∀ s ∈ ss, s.op ≠ 28) ∧ ∀ (j : Nat) (s : Stp) (d : Do), ss[j]? = some s → ds[j]? = some d → Does w s d
theorem DoesAll.snoc {w : World} {ss : List Stp} {ds : List Do} (h : DoesAll w ss ds) {s : Stp} {d : Do} (h28 : s.op ≠ 28) (hd : Does w s d) : DoesAll w (ss ++ [s]) (ds ++ [d]) := by
  obtain ⟨h1, h2, h3⟩ := h
  refine ⟨by simp [h1], fun t ht => ?_, fun j t e ht he => ?_⟩
  · rcases List.mem_append.1 ht with ht | ht
    · exact h2 t ht
    · rw [List.mem_singleton.1 ht]; exact h28
  · rcases Nat.lt_or_ge j ss.length with hj | hj
    · rw [List.getElem?_append_left hj] at ht
      rw [List.getElem?_append_left (by omega)] at he
      exact h3 j t e ht he
    · rw [List.getElem?_append_right hj] at ht
      rw [List.getElem?_append_right (by omega)] at he
      rw [← h1] at he
      rcases Nat.eq_zero_or_pos (j - ss.length) with hz | hz
      · rw [hz] at ht he
        simp only [List.getElem?_cons_zero, Option.some.injEq] at ht he
        subst ht
        subst he
        exact hd
      · obtain ⟨m, hm⟩ : ∃ m, j - ss.length = m + 1 := ⟨j - ss.length - 1, by omega⟩
        rw [hm] at ht
        simp at ht
def dsOf (table : ByteArray) (cols : List ByteArray) (rows : List (List S38)) : List Do := .into table :: .cols cols :: rows.map .vals
theorem dsOf_snoc (table : ByteArray) (cols : List ByteArray) (rows : List (List S38)) (xs : List S38) : dsOf table cols (rows ++ [xs]) = dsOf table cols rows ++ [.vals xs] := by simp [dsOf]
def wantText (ns : List Nat) : List UInt8 := Lib.join (ns.map rowText) [44]
theorem join_snoc (l : List (List UInt8)) (x sep : List UInt8) (h : l ≠ []) : Lib.join (l ++ [x]) sep = Lib.join l sep ++ (sep ++ x) := by
  rcases l with _ | ⟨y, l⟩
  · exact absurd rfl h
  · rw [List.cons_append, Lib.join_cons, Lib.join_cons, List.append_assoc]
    congr 1
    simp [Lib.joinTail]
theorem wantText_snoc (ns : List Nat) (n : Nat) (h : ns ≠ []) : wantText (ns ++ [n]) = wantText ns ++ ([44] ++ rowText n) := by
  unfold wantText
  rw [List.map_append]
  exact join_snoc _ _ _ (by simpa using h)
theorem wantText_le (ns : List Nat) (h : ∀ n ∈ ns, n ≤ 1000) : (wantText ns).length ≤ 2003 * ns.length := by
  have := join_le2 (ns.map rowText) 2002 (fun x hx => by
    obtain ⟨n, hn, rfl⟩ := List.mem_map.1 hx
    exact rowText_le n (h n hn))
  rw [List.length_map] at this
  exact this
def GoodRows (rows : List (List S38)) : Prop := ∀ xs ∈ rows, 0 < xs.length ∧ xs.length ≤ 20 ∧ ∀ x ∈ xs, Plain x
theorem rd_L4_at (xs : List (List S38)) (j : Nat) (h : j < xs.length) : rd_L4 xs (j : Int) = xs[j] := by
  unfold rd_L4; rw [Int.toNat_natCast, List.getD_eq_getElem?_getD, List.getElem?_eq_getElem h]; rfl
theorem inner_text (v : Nat) : Lib.join (List.replicate (v + 1) [63]) [44] = if v = 0 then [63] else Lib.join (List.replicate v [63]) [44] ++ ([44] ++ [63]) := by
  split
  · rename_i h
    subst h
    simp [Lib.join_one]
  · rw [List.replicate_succ']
    exact join_snoc _ _ _ (by rw [Ne, List.replicate_eq_nil_iff]; assumption)
end Go.Proofs.YtkefdfnlnkeigaaDoor

import Derived.Test.YtkefdfnlnkeigaaDoorC
import Derived.Deep.Slices
namespace Go.Proofs.YtkefdfnlnkeigaaDoor
open Go.RowKit Go.Proofs.YtkefdfnlnkeigaaDoorW.PrintWords Go.Proofs.YtkefdfnlnkeigaaDoor.PFnRows
theorem add_add (a : Addr) (m i : Nat) : (a.add m).add i = a.add (m + i) := by
  unfold Addr.add
  by_cases hm : m = 0
  · subst hm; simp
  · by_cases hi : i = 0
    · subst hi; simp
    · simp [hm, hi]; omega
theorem mapM_get {α β : Type} (f : α → Option β) : ∀ (l : List α) (r : List β), l.mapM f = some r → r.length = l.length ∧ ∀ (i : Nat) (u : β), r[i]? = some u → ∃ x, l[i]? = some x ∧ f x = some u
  | [], r, h => by
    simp at h
    subst h
    exact ⟨rfl, fun i u hu => by simp at hu⟩
  | x :: l, r, h => by
    rw [List.mapM_cons] at h
    simp only [Option.bind_eq_bind, Option.bind_eq_some_iff, Option.pure_def, Option.some.injEq] at h
    obtain ⟨y, hy, r', hr, rfl⟩ := h
    obtain ⟨h1, h2⟩ := mapM_get f l r' hr
    refine ⟨by simp [h1], fun i u hu => ?_⟩
    rcases i with _ | i
    · simp only [List.getElem?_cons_zero, Option.some.injEq] at hu
      exact ⟨x, rfl, hu ▸ hy⟩
    · simp only [List.getElem?_cons_succ] at hu ⊢
      exact h2 i u hu
theorem cells_at {w : World} {base : Nat} {a : Addr} {n : Nat} {cs : List Value} (h : w.cells? base a n = some cs) : cs.length = n ∧ ∀ (i : Nat) (u : Value), cs[i]? = some u → w.cell? (a.add i) = some u := by
  unfold World.cells? at h
  split at h
  · obtain ⟨h1, h2⟩ := mapM_get _ _ _ h
    refine ⟨by simpa using h1, fun i u hu => ?_⟩
    obtain ⟨x, hx, hc⟩ := h2 i u hu
    obtain ⟨hl, hx⟩ := List.getElem?_eq_some_iff.1 hx
    simp at hx
    subst hx
    exact hc
  · cases h
theorem row_of {α : Type} {R : Nat → α → Prop} : ∀ (n : Nat), (∀ i, i < n → ∃ p, R i p) → ∃ ps : List α, ps.length = n ∧ ∀ (j : Nat) (p : α), ps[j]? = some p → R j p
  | 0, _ => ⟨[], rfl, fun j p h => by simp at h⟩
  | n + 1, h => by
    obtain ⟨ps, h1, h2⟩ := row_of n (fun i hi => h i (by omega))
    obtain ⟨p, hp⟩ := h n (by omega)
    refine ⟨ps ++ [p], by simp [h1], fun j q hq => ?_⟩
    rcases Nat.lt_or_ge j ps.length with hj | hj
    · rw [List.getElem?_append_left hj] at hq
      exact h2 j q hq
    · rw [List.getElem?_append_right hj] at hq
      have : j - ps.length = 0 := by
        rcases Nat.eq_zero_or_pos (j - ps.length) with h0 | h0
        · exact h0
        · rw [List.getElem?_eq_none (by simp; omega)] at hq
          cases hq
      rw [this] at hq
      simp at hq
      subst hq
      obtain rfl : j = n := by omega
      exact hp

section
variable {H : Type} {enc : TypeId × Value → H} {P : Program} {w : World} {base : Nat} {spare : Nat → Bool} {held : Bool} {α : Type}
theorem slice_open (d : Kd α) {t e : TypeId} (ht : P.underlying t = some (.slice e)) (hc : P.cellsOf e = d.sz) {fuel : Nat} (hel : ∀ n cs x, n < fuel → DataW.trod enc P w base spare held n e cs = some x → ∃ p, d.K w p cs)
    {cs : List Value} {x : DataW H × List MemPlace} (h : DataW.trod enc P w base spare held fuel t cs = some x) : ∃ (A : Option Addr) (c : Nat) (xs : List α), cs = [.slice A xs.length c] ∧ xs.length ≤ c ∧ d.C w A xs.length xs := by
  rcases DataW.trod_slice ht h with ⟨rfl, _⟩ | ⟨a, len, cap, elems, rest, n, hf, rfl, _, _, hl, hm, hlen, hat, _, _⟩
  · exact ⟨none, 0, [], rfl, Nat.le_refl _, (Kd.R_reads' (Kd.R_nil d 0 w 0 (fun _ => True))).2.2⟩
  · obtain ⟨xs, h1, h2⟩ := row_of (R := fun i p => ∃ cs', w.cells? base (a.add (i * d.sz)) d.sz = some cs' ∧ d.K w p cs') len (fun i hi => by
      have := hat i hi
      rw [List.getElem?_eq_getElem (by omega), hc] at this
      obtain ⟨cs', h3, h4⟩ := Option.bind_eq_some_iff.1 this
      obtain ⟨p, hp⟩ := hel n cs' _ (by omega) h4
      exact ⟨p, cs', h3, hp⟩)
    subst h1
    refine ⟨some a, cap, xs, rfl, hl, rfl, by simp only [maxLen] at hm; omega, fun _ => ⟨a, rfl, fun j p hj => ?_⟩⟩
    obtain ⟨cs', h3, h4⟩ := h2 j p hj
    obtain ⟨h5, h6⟩ := cells_at h3
    refine ⟨cs', h5, h4, fun i u hu => ?_⟩
    rw [← add_add]
    exact h6 i u hu
theorem string_open {t : TypeId} (ht : P.underlying t = some .string) {fuel : Nat} {cs : List Value} {x : DataW H × List MemPlace} (h : DataW.trod enc P w base spare held fuel t cs = some x) : ∃ s : ByteArray, cs = [.string s] := by
  cases fuel with
  | zero => simp [DataW.trod] at h
  | succ n =>
    unfold DataW.trod at h
    rw [ht] at h
    split at h <;> simp_all
end

section
variable {H : Type} {enc : TypeId × Value → H} {w : World} {base : Nat} {spare : Nat → Bool} {held : Bool}
theorem int_open {t : TypeId} {kd : IntKind} (ht : Tryd.prog.underlying t = some (.int kd)) {fuel : Nat} {cs : List Value} {x : DataW H × List MemPlace} (h : DataW.trod enc Tryd.prog w base spare held fuel t cs = some x) : ∃ n : Int, cs = [.int kd n] := by
  cases fuel with
  | zero => simp [DataW.trod] at h
  | succ n =>
    unfold DataW.trod at h
    rw [ht] at h
    split at h <;> simp_all
set_option maxRecDepth 100000 in
theorem value_open : ∀ (N fuel : Nat), fuel ≤ N → ∀ (cs : List Value) (x : DataW H × List MemPlace), DataW.trod enc Tryd.prog w base spare held fuel 38 cs = some x → ∃ p, k38.K w p cs
  | 0, fuel, hf, cs, x, h => by
    obtain rfl : fuel = 0 := by omega
    simp [DataW.trod] at h
  | N + 1, fuel, hf, cs, x, h => by
    cases fuel with
    | zero => simp [DataW.trod] at h
    | succ m =>
      have hcl : Tryd.prog.cellsOf 38 = 4 := by kernel_rfl
      have hc3 : Tryd.prog.cellsOf 3 = 1 := by kernel_rfl
      have hc2 : Tryd.prog.cellsOf 2 = 1 := by kernel_rfl
      have hc9 : Tryd.prog.cellsOf 9 = 1 := by kernel_rfl
      have hc26 : Tryd.prog.cellsOf 26 = 1 := by kernel_rfl
      obtain ⟨ys, n, hfn, _, hlen, hyl, hat⟩ := DataW.trod_struct Tryd.underlying38 h
      have hyl : ys.length = 4 := hyl
      rw [hcl] at hlen
      match cs, hlen with
      | [v0, v1, v2, v3], _ =>
        have h0 : DataW.trod enc Tryd.prog w base spare held n 3 (([v0, v1, v2, v3].drop 0).take (Tryd.prog.cellsOf 3)) = ys[0]? := hat 0 _ rfl
        have h1 : DataW.trod enc Tryd.prog w base spare held n 2 (([v0, v1, v2, v3].drop 1).take (Tryd.prog.cellsOf 2)) = ys[1]? := hat 1 _ rfl
        have h2 : DataW.trod enc Tryd.prog w base spare held n 9 (([v0, v1, v2, v3].drop 2).take (Tryd.prog.cellsOf 9)) = ys[2]? := hat 2 _ rfl
        have h3 : DataW.trod enc Tryd.prog w base spare held n 26 (([v0, v1, v2, v3].drop 3).take (Tryd.prog.cellsOf 26)) = ys[3]? := hat 3 _ rfl
        rw [hc3, List.getElem?_eq_getElem (by omega)] at h0
        rw [hc2, List.getElem?_eq_getElem (by omega)] at h1
        rw [hc9, List.getElem?_eq_getElem (by omega)] at h2
        rw [hc26, List.getElem?_eq_getElem (by omega)] at h3
        obtain ⟨n0, e0⟩ := int_open Tryd.underlying3 h0
        obtain ⟨n1, e1⟩ := int_open Tryd.underlying2 h1
        obtain ⟨s2, e2⟩ := string_open Tryd.underlying9 h2
        obtain ⟨A, c, xs, e3, hl, hC⟩ := slice_open k38 Tryd.underlying26 hcl (fun n' cs x hn hx => value_open N n' (by omega) cs x hx) h3
        have e0' : v0 = .int .i64 n0 := by simpa using e0
        have e1' : v1 = .int .i64 n1 := by simpa using e1
        have e2' : v2 = .string s2 := by simpa using e2
        have e3' : v3 = .slice A xs.length c := by simpa using e3
        rw [e0', e1', e2', e3']
        exact ⟨⟨n0, n1, s2, xs⟩, k38_mk w ⟨n0, n1, s2, xs⟩ hl hC⟩
set_option maxRecDepth 100000 in
theorem rows_open {fuel : Nat} {cs : List Value} {x : DataW H × List MemPlace} (h : DataW.trod enc Tryd.prog w base spare held fuel 23 cs = some x) : ∃ (A : Option Addr) (c : Nat) (xs : List (List S38)), cs = [.slice A xs.length c] ∧ xs.length ≤ c ∧ (Kd.slice 38 k38).C w A xs.length xs :=
  slice_open (Kd.slice 38 k38) Tryd.underlying23 (by show Tryd.prog.cellsOf 26 = 1; kernel_rfl) (fun n cs x _ hx => by
    obtain ⟨A, c, xs, e, hl, hC⟩ := slice_open k38 Tryd.underlying26 (by show Tryd.prog.cellsOf 38 = 4; kernel_rfl) (fun n cs x _ hx => value_open n n (Nat.le_refl _) cs x hx) hx
    exact ⟨xs, A, c, e, hl, hC⟩) h
set_option maxRecDepth 100000 in
theorem names_open {fuel : Nat} {cs : List Value} {x : DataW H × List MemPlace} (h : DataW.trod enc Tryd.prog w base spare held fuel 22 cs = some x) : ∃ (A : Option Addr) (c : Nat) (xs : List ByteArray), cs = [.slice A xs.length c] ∧ xs.length ≤ c ∧ Kd.string.C w A xs.length xs :=
  slice_open Kd.string Tryd.underlying22 (by show Tryd.prog.cellsOf 9 = 1; kernel_rfl) (fun n cs x _ hx => by
    obtain ⟨s, e⟩ := string_open Tryd.underlying9 hx
    exact ⟨s, e⟩) h
end
end Go.Proofs.YtkefdfnlnkeigaaDoor

import Derived.Test.YtkefdfnlnkeigaaDoorD
namespace Go.Proofs.YtkefdfnlnkeigaaDoor
open Go.RowKit Go.Proofs.YtkefdfnlnkeigaaDoorW.PrintWords Go.Proofs.YtkefdfnlnkeigaaDoor.PFnRows
abbrev nColumns : ByteArray := ⟨#[67, 111, 108, 117, 109, 110, 115]⟩
abbrev nValues : ByteArray := ⟨#[86, 97, 108, 117, 101, 115]⟩
theorem C_one (W : World) (v : Iv) (t : TypeId) : kI.C (W.alloc (.cells #[encI v] t)) (some ⟨W.heap.size, 0, none⟩) 1 [v] := by
  refine ⟨rfl, by decide, fun _ => ⟨_, rfl, ?_⟩⟩
  intro j x hj
  match j, hj with
  | 0, hj =>
    injection hj with hj
    subst hj
    refine ⟨[encI v], rfl, rfl, ?_⟩
    intro i u hu
    match i, hu with
    | 0, hu =>
      injection hu with hu
      subst hu
      show (W.alloc (.cells #[encI v] t)).cell? ((⟨W.heap.size, 0, none⟩ : Addr).add 0) = some (encI v)
      rw [add_plain]
      exact (blk_cell (new_at W _ _ rfl) 0).trans rfl
    | i + 1, hu => simp at hu
  | j + 1, hj => simp at hj

set_option maxHeartbeats 1000000 in
theorem columns24 (q : Option Addr) (es : List (ByteArray × Iv)) (old : List Iv) (xs : List ByteArray) (A : Option Addr) (c : Nat) (w : World) (hC : Ch w q es)
    (hold : (find es nColumns = none ∧ old = []) ∨ ∃ lv, find es nColumns = some (some (100, lv)) ∧ RI w lv old) (hy : Kd.string.C w A xs.length xs) (hl : old.length + xs.length ≤ 1000) :
    Calls Tryd.prog 24 #[.agg #[.pointer q], .slice A xs.length c] w fun e w' => NewList w w' nColumns q (old ++ xs.map fun s => some (9, .string s)) e := by
  have HC := Lib.hid hC
  have HY := Lib.hid hy
  clear hC hy
  go_enter Tryd.func24, Tryd.ntmps24
  go_wp2_with fail
  refine (extend37 q _ es old xs A c _ (HC.out.keep (by go_grown)) ?_ (Kd.C_below HY.out (by go_grown)) hl).mono ?_
  · rcases hold with h | ⟨lv, h1, h2⟩
    · exact .inl h
    · exact .inr ⟨lv, h1, h2.below (by go_grown)⟩
  rintro e w1 ⟨lv, ⟨b, rfl, hh, hb⟩, hRI⟩
  have hs := hb.size
  have hc : w1.cell? ⟨w.heap.size + 1, 0, none⟩ = some (.pointer none) := pw_cell_below hb (by simp)
  have hf : w1.frozen? ⟨w.heap.size + 1, 0, none⟩ = false := (hb.frozen (p := ⟨w.heap.size + 1, 0, none⟩) (by simp)).trans (by simp)
  have HH := Lib.hid hh
  have HB := Lib.hid hb
  have HR := Lib.hid hRI
  clear hh hb hRI
  go_wp2
  refine bodyPost_ret (v := .agg #[.pointer (some ⟨b, 0, none⟩)]) (by simp [results, Tryd.results24, go_sem, hc]) rfl ?_
  exact NewList.stored (by simp) (by simp) (by go_grown) (new_at _ _ _ (by simp)) (by decide) (by decide) HH.out HB.out HR.out

set_option maxHeartbeats 1000000 in
theorem values27 (q : Option Addr) (es : List (ByteArray × Iv)) (old : List Iv) (A : Option Addr) (n c : Nat) (w : World) (hC : Ch w q es)
    (hold : (find es nValues = none ∧ old = []) ∨ ∃ lv, find es nValues = some (some (100, lv)) ∧ RI w lv old) (hl : old.length ≤ 1000) :
    Calls Tryd.prog 27 #[.agg #[.pointer q], .slice A n c] w fun e w' => NewList w w' nValues q (old ++ [some (61, .slice A n c)]) e := by
  have HC := Lib.hid hC
  clear hC
  go_enter Tryd.func27, Tryd.ntmps27
  go_wp2_with fail
  obtain ⟨W0, hW⟩ : ∃ W0, W0 = ((w.alloc (.cells #[.pointer q] 46)).alloc (.cells #[.pointer none] 46)).alloc (.cells #[.iface 61 (.slice A n c)] 20) := ⟨_, rfl⟩
  rw [← hW]
  have hsz : W0.heap.size = w.heap.size + 3 := by simp [hW]
  have hBW : Below w.heap.size w W0 := by rw [hW]; go_grown
  have hc : W0.cell? ⟨w.heap.size + 1, 0, none⟩ = some (.pointer none) := by rw [hW]; exact pw_cell_below ((Below.refl _ _).alloc (Nat.le_refl _) _) (by simp)
  have hf : W0.frozen? ⟨w.heap.size + 1, 0, none⟩ = false := by rw [hW]; exact (((Below.refl _ _).alloc (Nat.le_refl _) _).frozen (p := ⟨w.heap.size + 1, 0, none⟩) (by simp)).trans (by simp)
  have hh : W0.heap[w.heap.size + 1]? = some (.cells #[.pointer none] 46 (0, 0)) := by
    rw [hW]
    exact ((Below.refl _ _).alloc (Nat.le_refl _) _ |>.block _ (by simp)).trans (new_at _ _ _ (by simp))
  have h1 : kI.C W0 (some ⟨w.heap.size + 1 + 1, 0, none⟩) 1 [some (61, .slice A n c)] := by
    have := C_one ((w.alloc (.cells #[.pointer q] 46)).alloc (.cells #[.pointer none] 46)) (some (61, .slice A n c)) 20
    rw [hW]
    simpa [encI] using this
  clear hW
  refine (append41 q _ es old [some (61, .slice A n c)] _ 1 W0 (HC.out.keep hBW) ?_ h1 (by simp; omega)).mono ?_
  · rcases hold with h | ⟨lv, h1, h2⟩
    · exact .inl h
    · exact .inr ⟨lv, h1, h2.below hBW⟩
  rintro e w1 ⟨lv, ⟨b, rfl, hh1, hb⟩, hRI⟩
  have hs := hb.size
  have hc1 : w1.cell? ⟨w.heap.size + 1, 0, none⟩ = some (.pointer none) := pw_cell_below hb hc
  have hf1 : w1.frozen? ⟨w.heap.size + 1, 0, none⟩ = false := (hb.frozen (p := ⟨w.heap.size + 1, 0, none⟩) (by simp only; omega)).trans hf
  have HH := Lib.hid hh1
  have HB := Lib.hid hb
  have HR := Lib.hid hRI
  have HSZ := Lib.hid hsz
  have HH0 := Lib.hid hh
  have HBW := Lib.hid hBW
  clear hh1 hb hRI hsz hh hBW h1 hc hf
  go_wp2
  refine bodyPost_ret (v := .agg #[.pointer (some ⟨b, 0, none⟩)]) (by simp [results, Tryd.results27, go_sem, hc1]) rfl ?_
  exact NewList.stored (W := W0) (by simp) (by have := HSZ.out; omega) HBW.out HH0.out (by decide) (by decide) HH.out HB.out HR.out

/-! ### The builder's state -/
abbrev nPrefixes : ByteArray := ⟨#[80, 114, 101, 102, 105, 120, 101, 115]⟩
abbrev nKeyword : ByteArray := ⟨#[83, 116, 97, 116, 101, 109, 101, 110, 116, 75, 101, 121, 119, 111, 114, 100]⟩
abbrev nOptions : ByteArray := ⟨#[79, 112, 116, 105, 111, 110, 115]⟩
abbrev nSuffixes : ByteArray := ⟨#[83, 117, 102, 102, 105, 120, 101, 115]⟩
abbrev nSelect : ByteArray := ⟨#[83, 101, 108, 101, 99, 116]⟩

/-- What each row of values is in memory. -/
inductive Rs (w : World) : List Iv → List (List S38) → Prop
  | nil : Rs w [] []
  | cons {A : Option Addr} {c : Nat} {xs : List S38} {vs : List Iv} {rows : List (List S38)} : kI.C w A xs.length (xs.map anyOf) → Rs w vs rows → Rs w (some (61, .slice A xs.length c) :: vs) (xs :: rows)
theorem Rs.keep {w w' : World} (hb : Below w.heap.size w w') : ∀ {vs : List Iv} {rows : List (List S38)}, Rs w vs rows → Rs w' vs rows
  | _, _, .nil => .nil
  | _, _, .cons h t => .cons (Kd.C_below h hb) (t.keep hb)
theorem Rs.snoc {w : World} {A : Option Addr} {c : Nat} {xs : List S38} (hx : kI.C w A xs.length (xs.map anyOf)) : ∀ {vs : List Iv} {rows : List (List S38)}, Rs w vs rows → Rs w (vs ++ [some (61, .slice A xs.length c)]) (rows ++ [xs])
  | _, _, .nil => .cons hx .nil
  | _, _, .cons h t => .cons h (t.snoc hx)
theorem Rs.len {w : World} : ∀ {vs : List Iv} {rows : List (List S38)}, Rs w vs rows → vs.length = rows.length
  | _, _, .nil => rfl
  | _, _, .cons _ t => congrArg (· + 1) t.len

/-- An entry that holds a list, or is not there. -/
def Has (w : World) (es : List (ByteArray × Iv)) (nm : ByteArray) (row : List Iv) : Prop := (find es nm = none ∧ row = []) ∨ ∃ lv, find es nm = some (some (100, lv)) ∧ RI w lv row
theorem Has.keep {w w' : World} {es : List (ByteArray × Iv)} {nm : ByteArray} {row : List Iv} (h : Has w es nm row) (hb : Below w.heap.size w w') : Has w' es nm row :=
  h.imp id (fun ⟨lv, h1, h2⟩ => ⟨lv, h1, h2.below hb⟩)
theorem Has.cons {w : World} {es : List (ByteArray × Iv)} {nm : ByteArray} {row : List Iv} (h : Has w es nm row) {nm1 : ByteArray} {v : Iv} (hne : (nm1.toList == nm.toList) = false) : Has w ((nm1, v) :: es) nm row := by
  unfold Has at h ⊢
  rw [find_cons, hne]
  exact h
theorem find_skip {nm1 nm : ByteArray} {v : Iv} {es : List (ByteArray × Iv)} (hne : (nm1.toList == nm.toList) = false) : find ((nm1, v) :: es) nm = find es nm := by
  rw [find_cons, hne]; rfl
theorem find_hit {nm : ByteArray} {v : Iv} {es : List (ByteArray × Iv)} : find ((nm, v) :: es) nm = some v := by
  rw [find_cons, if_pos (beq_self_eq_true _)]

structure St where
  tbl : ByteArray
  cols : List ByteArray
  rows : List (List S38)
abbrev strI (s : ByteArray) : Iv := some (9, .string s)
def Bld (w : World) (p : Option Addr) (st : St) : Prop :=
  ∃ es, Ch w p es ∧ find es nPF = some (some (49, .agg #[])) ∧ find es nInto = some (strI st.tbl) ∧ Has w es nColumns (st.cols.map strI) ∧ (∃ vs, Has w es nValues vs ∧ Rs w vs st.rows) ∧
    find es nPrefixes = none ∧ find es nKeyword = none ∧ find es nOptions = none ∧ find es nSuffixes = none ∧ find es nSelect = none
theorem Bld.keep {w w' : World} {p : Option Addr} {st : St} (h : Bld w p st) (hb : Below w.heap.size w w') : Bld w' p st := by
  obtain ⟨es, h1, h2, h3, h4, ⟨vs, h5, h6⟩, h7⟩ := h
  exact ⟨es, h1.keep hb, h2, h3, h4.keep hb, ⟨vs, h5.keep hb, h6.keep hb⟩, h7⟩
theorem ne_by {a b : List UInt8} (h : a ≠ b) : (a == b) = false := by simpa using h
theorem Bld.pf {w w' : World} {p : Option Addr} {st : St} (h : Bld w p st) {e : Ending} (hn : NewEntry w w' nPF (some (49, .agg #[])) p e) :
    ∃ b, e = .returned (.agg #[.pointer (some ⟨b, 0, none⟩)]) ∧ Bld w' (some ⟨b, 0, none⟩) st ∧ Below w.heap.size w w' := by
  obtain ⟨es, h1, h2, h3, h4, ⟨vs, h5, h6⟩, h7, h8, h9, h10, h11⟩ := h
  obtain ⟨b, he, hc, hb⟩ := hn.chain h1
  refine ⟨b, he, ⟨_, hc, find_hit, (find_skip (by kernel_rfl)).trans h3, (h4.keep hb).cons (by kernel_rfl), ⟨vs, (h5.keep hb).cons (by kernel_rfl), h6.keep hb⟩, (find_skip (by kernel_rfl)).trans h7, (find_skip (by kernel_rfl)).trans h8, (find_skip (by kernel_rfl)).trans h9, (find_skip (by kernel_rfl)).trans h10, (find_skip (by kernel_rfl)).trans h11⟩, hb⟩
theorem Bld.into {w w' : World} {p : Option Addr} {st : St} (h : Bld w p st) {e : Ending} {t : ByteArray} (hn : NewEntry w w' nInto (some (9, .string t)) p e) :
    ∃ b, e = .returned (.agg #[.pointer (some ⟨b, 0, none⟩)]) ∧ Bld w' (some ⟨b, 0, none⟩) ⟨t, st.cols, st.rows⟩ ∧ Below w.heap.size w w' := by
  obtain ⟨es, h1, h2, h3, h4, ⟨vs, h5, h6⟩, h7, h8, h9, h10, h11⟩ := h
  obtain ⟨b, he, hc, hb⟩ := hn.chain h1
  refine ⟨b, he, ⟨_, hc, (find_skip (by kernel_rfl)).trans h2, find_hit, (h4.keep hb).cons (by kernel_rfl), ⟨vs, (h5.keep hb).cons (by kernel_rfl), h6.keep hb⟩, (find_skip (by kernel_rfl)).trans h7, (find_skip (by kernel_rfl)).trans h8, (find_skip (by kernel_rfl)).trans h9, (find_skip (by kernel_rfl)).trans h10, (find_skip (by kernel_rfl)).trans h11⟩, hb⟩
theorem Bld.columns {w w' : World} {p : Option Addr} {st : St} {es : List (ByteArray × Iv)} {vs : List Iv} (h1 : Ch w p es) (h2 : find es nPF = some (some (49, .agg #[]))) (h3 : find es nInto = some (strI st.tbl)) (h5 : Has w es nValues vs) (h6 : Rs w vs st.rows)
    (h7 : find es nPrefixes = none ∧ find es nKeyword = none ∧ find es nOptions = none ∧ find es nSuffixes = none ∧ find es nSelect = none) {e : Ending} {xs : List ByteArray} (hn : NewList w w' nColumns p (st.cols.map strI ++ xs.map strI) e) :
    ∃ b, e = .returned (.agg #[.pointer (some ⟨b, 0, none⟩)]) ∧ Bld w' (some ⟨b, 0, none⟩) ⟨st.tbl, st.cols ++ xs, st.rows⟩ ∧ Below w.heap.size w w' := by
  obtain ⟨h7, h8, h9, h10, h11⟩ := h7
  obtain ⟨lv, hn, hR⟩ := hn
  obtain ⟨b, he, hc, hb⟩ := hn.chain h1
  refine ⟨b, he, ⟨_, hc, (find_skip (by kernel_rfl)).trans h2, (find_skip (by kernel_rfl)).trans h3, .inr ⟨lv, find_hit, ?_⟩, ⟨vs, (h5.keep hb).cons (by kernel_rfl), h6.keep hb⟩, (find_skip (by kernel_rfl)).trans h7, (find_skip (by kernel_rfl)).trans h8, (find_skip (by kernel_rfl)).trans h9, (find_skip (by kernel_rfl)).trans h10, (find_skip (by kernel_rfl)).trans h11⟩, hb⟩
  rw [List.map_append]
  exact Kd.R_reads hR
theorem Bld.values {w w' : World} {p : Option Addr} {st : St} {es : List (ByteArray × Iv)} {vs : List Iv} (h1 : Ch w p es) (h2 : find es nPF = some (some (49, .agg #[]))) (h3 : find es nInto = some (strI st.tbl)) (h4 : Has w es nColumns (st.cols.map strI)) (h6 : Rs w vs st.rows)
    (h7 : find es nPrefixes = none ∧ find es nKeyword = none ∧ find es nOptions = none ∧ find es nSuffixes = none ∧ find es nSelect = none) {e : Ending} {xs : List S38} {A : Option Addr} {c : Nat} (hx : kI.C w A xs.length (xs.map anyOf)) (hn : NewList w w' nValues p (vs ++ [some (61, .slice A xs.length c)]) e) :
    ∃ b, e = .returned (.agg #[.pointer (some ⟨b, 0, none⟩)]) ∧ Bld w' (some ⟨b, 0, none⟩) ⟨st.tbl, st.cols, st.rows ++ [xs]⟩ ∧ Below w.heap.size w w' := by
  obtain ⟨h7, h8, h9, h10, h11⟩ := h7
  obtain ⟨lv, hn, hR⟩ := hn
  obtain ⟨b, he, hc, hb⟩ := hn.chain h1
  exact ⟨b, he, ⟨_, hc, (find_skip (by kernel_rfl)).trans h2, (find_skip (by kernel_rfl)).trans h3, (h4.keep hb).cons (by kernel_rfl), ⟨_, .inr ⟨lv, find_hit, Kd.R_reads hR⟩, (h6.keep hb).snoc (Kd.C_below hx hb)⟩, (find_skip (by kernel_rfl)).trans h7, (find_skip (by kernel_rfl)).trans h8, (find_skip (by kernel_rfl)).trans h9, (find_skip (by kernel_rfl)).trans h10, (find_skip (by kernel_rfl)).trans h11⟩, hb⟩

/-! ### The steps -/
abbrev Sh := Option Addr × Nat × Nat
structure Stp where
  op : Int
  text : ByteArray
  nh : Sh
  ah : Sh
def Stp.cells (s : Stp) : List Value := [.int .i64 s.op, .string s.text, .slice s.nh.1 s.nh.2.1 s.nh.2.2, .slice s.ah.1 s.ah.2.1 s.ah.2.2, .slice none 0 0, .slice none 0 0, .slice none 0 0, .int .u64 0]
def kS : Kd Stp := Kd.iso (Kd.raw 8) Stp.cells
inductive Do where
  | into (t : ByteArray)
  | cols (xs : List ByteArray)
  | vals (xs : List S38)
def ap (st : St) : Do → St
  | .into t => ⟨t, st.cols, st.rows⟩
  | .cols xs => ⟨st.tbl, st.cols ++ xs, st.rows⟩
  | .vals xs => ⟨st.tbl, st.cols, st.rows ++ [xs]⟩
inductive Does (w : World) : Stp → Do → Prop
  | into (t : ByteArray) (nh ah : Sh) : Does w ⟨25, t, nh, ah⟩ (.into t)
  | cols {t : ByteArray} {A : Option Addr} {c : Nat} {xs : List ByteArray} {ah : Sh} : Kd.string.C w A xs.length xs → Does w ⟨1, t, (A, xs.length, c), ah⟩ (.cols xs)
  | vals {t : ByteArray} {A : Option Addr} {c : Nat} {xs : List S38} {nh : Sh} : k38.C w A xs.length xs → (∀ x ∈ xs, 0 ≤ x.f0 ∧ x.f0 ≤ 4) → xs.length ≤ 1000 → Does w ⟨26, t, nh, (A, xs.length, c)⟩ (.vals xs)
theorem Does.keep {w w' : World} (hb : Below w.heap.size w w') {s : Stp} {d : Do} (h : Does w s d) : Does w' s d := by
  cases h with
  | into => exact .into _ _ _
  | cols h => exact .cols (Kd.C_below h hb)
  | vals h h2 h3 => exact .vals (Kd.C_below h hb) h2 h3
end Go.Proofs.YtkefdfnlnkeigaaDoor

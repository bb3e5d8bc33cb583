import Derived.Test.YtkefdfnlnkeigaaDoorE
import Derived.Deep.RegionHeld3
namespace Go.Proofs.YtkefdfnlnkeigaaDoor
open Go.RowKit Go.Proofs.YtkefdfnlnkeigaaDoorW.PrintWords Go.Proofs.YtkefdfnlnkeigaaDoor.PFnRows
theorem at_kS {w : World} {A : Option Addr} {n : Nat} {xs : List Stp} (h : kS.C w A n xs) (j : Nat) (hj : j < n) : ∃ ad s, A = some ad ∧ xs[j]? = some s ∧ w.cell? (ad.add (j * 8)) = some (.int .i64 s.op) ∧
    w.cell? ⟨(ad.add (j * 8)).block, (ad.add (j * 8)).off + 1, none⟩ = some (.string s.text) ∧ w.cell? ⟨(ad.add (j * 8)).block, (ad.add (j * 8)).off + 2, none⟩ = some (.slice s.nh.1 s.nh.2.1 s.nh.2.2) ∧
    w.cell? ⟨(ad.add (j * 8)).block, (ad.add (j * 8)).off + 3, none⟩ = some (.slice s.ah.1 s.ah.2.1 s.ah.2.2) ∧ w.cell? ⟨(ad.add (j * 8)).block, (ad.add (j * 8)).off + 4, none⟩ = some (.slice none 0 0) ∧
    w.cell? ⟨(ad.add (j * 8)).block, (ad.add (j * 8)).off + 5, none⟩ = some (.slice none 0 0) ∧ w.cell? ⟨(ad.add (j * 8)).block, (ad.add (j * 8)).off + 6, none⟩ = some (.slice none 0 0) ∧
    w.cell? ⟨(ad.add (j * 8)).block, (ad.add (j * 8)).off + 7, none⟩ = some (.int .u64 0) := by
  obtain ⟨ad, e, hc⟩ := h.2.2 (by omega)
  have hl : j < xs.length := by have := h.1; omega
  obtain ⟨c, _, hK, hcell⟩ := hc j _ (List.getElem?_eq_getElem hl)
  have hK' : c = xs[j].cells := hK.1
  subst hK'
  have hcl : ∀ i u, xs[j].cells[i]? = some u → w.cell? (ad.add (j * 8 + i)) = some u := hcell
  exact ⟨ad, xs[j], e, List.getElem?_eq_getElem hl, hcl 0 _ rfl, by rw [← add_field _ _ 1 (by omega)]; exact hcl 1 _ rfl, by rw [← add_field _ _ 2 (by omega)]; exact hcl 2 _ rfl, by rw [← add_field _ _ 3 (by omega)]; exact hcl 3 _ rfl, by rw [← add_field _ _ 4 (by omega)]; exact hcl 4 _ rfl, by rw [← add_field _ _ 5 (by omega)]; exact hcl 5 _ rfl, by rw [← add_field _ _ 6 (by omega)]; exact hcl 6 _ rfl, by rw [← add_field _ _ 7 (by omega)]; exact hcl 7 _ rfl⟩

set_option maxRecDepth 100000 in
set_option maxHeartbeats 1000000 in
theorem mixed10 (xs : List Stp) (A : Option Addr) (c : Nat) (w : World) (hr : kS.C w A xs.length xs) (h28 : ∀ s ∈ xs, s.op ≠ 28) (hl : xs.length ≤ 1000) :
    Calls Tryd.prog 10 #[.int .i64 2, .slice A xs.length c] w fun e w' => e = .returned (.bool false) ∧ Below w.heap.size w w' := by
  have HR := Lib.hid hr
  have HP := Lib.hid h28
  clear hr h28
  go_enter Tryd.func10, Tryd.ntmps10
  go_wp2
  go_loopg [5, 16] xs.length (fun k o i wr => o = .bool false ∧ ∃ j : Nat, i = .int .i64 j ∧ j ≤ xs.length ∧ Aside0 (j + k = xs.length) ∧ Aside0 (Below w.heap.size w wr))
  case atStart => exact ⟨rfl, 0, rfl, Nat.zero_le _, ⟨by omega⟩, ⟨by go_grown⟩⟩
  case round =>
    obtain ⟨rfl, j, rfl, hj, hk, hb⟩ := hrel
    by_cases hlt : j < xs.length
    · obtain ⟨ad, s, rfl, hy, h0, h1, h2, h3, h4, h5, h6, h7⟩ := at_kS HR.out j hlt
      have hs28 : s.op ≠ 28 := HP.out s (List.mem_of_getElem? hy)
      have HY := Lib.hid hy
      clear hy
      replace h0 := pw_cell_below hb.out h0
      replace h1 := pw_cell_below hb.out h1
      replace h2 := pw_cell_below hb.out h2
      replace h3 := pw_cell_below hb.out h3
      replace h4 := pw_cell_below hb.out h4
      replace h5 := pw_cell_below hb.out h5
      replace h6 := pw_cell_below hb.out h6
      replace h7 := pw_cell_below hb.out h7
      obtain ⟨op, text, nh, ah⟩ := s
      simp only at h0 h1 h2 h3 hs28
      have hbz : (op == 28) = false := by simpa using hs28
      go_wp2
      go_roundg (gk - 1)
      case measure => have := hk.out; omega
      case rel => exact ⟨rfl, j + 1, by go_num, by omega, ⟨by have := hk.out; omega⟩, ⟨hb.out.alloc hb.out.size _⟩⟩
    · obtain rfl : j = xs.length := by omega
      go_wp2
      go_returns
      exact ⟨rfl, hb.out⟩
theorem blk3_2 (w : World) (o1 o2 o3 : Obj) : (((w.alloc o1).alloc o2).alloc o3).heap[w.heap.size + 1 + 1]? = some o3 := new_at _ _ _ (by simp)
theorem blk2_1 (w : World) (o1 o2 : Obj) : ((w.alloc o1).alloc o2).heap[w.heap.size + 1]? = some o2 := new_at _ _ _ (by simp)
theorem blk2_0 (w : World) (o1 o2 : Obj) : ((w.alloc o1).alloc o2).heap[w.heap.size]? = some o1 := (heap_alloc_old _ _ (by simp)).trans (new_at _ _ _ rfl)
theorem blk3_1 (w : World) (o1 o2 o3 : Obj) : (((w.alloc o1).alloc o2).alloc o3).heap[w.heap.size + 1]? = some o2 := (heap_alloc_old _ _ (by simp)).trans (blk2_1 _ _ _)
theorem blk3_0 (w : World) (o1 o2 o3 : Obj) : (((w.alloc o1).alloc o2).alloc o3).heap[w.heap.size]? = some o1 := (heap_alloc_old _ _ (by simp; omega)).trans (blk2_0 _ _ _)
theorem blk_of_below {w w1 : World} (hb : Below w.heap.size w w1) {k : Nat} {o : Obj} (h : w.heap[k]? = some o) : w1.heap[k]? = some o := (hb.block k (blk_lt h)).trans h
def StepPost (w w' : World) (st : St) (e : Ending) : Prop := ∃ b, e = .returned (.tuple #[.agg #[.pointer (some ⟨b, 0, none⟩)], .bool true]) ∧ Bld w' (some ⟨b, 0, none⟩) st ∧ Below w.heap.size w w'
theorem StepPost.of {w w' : World} {st : St} {b : Nat} (h : ∃ b', Ending.returned (.agg #[.pointer (some ⟨b, 0, none⟩)]) = .returned (.agg #[.pointer (some ⟨b', 0, none⟩)]) ∧ Bld w' (some ⟨b', 0, none⟩) st ∧ Below w.heap.size w w') :
    StepPost w w' st (.returned (.tuple #[.agg #[.pointer (some ⟨b, 0, none⟩)], .bool true])) := by
  obtain ⟨b', he, h1, h2⟩ := h
  injection he with he
  injection he with he
  have he := congrArg Array.toList he
  injection he with he
  injection he with he
  injection he with he
  injection he with he
  subst he
  exact ⟨_, rfl, h1, h2⟩

set_option maxRecDepth 100000 in
set_option maxHeartbeats 4000000 in
theorem step17_into (p : Option Addr) (st : St) (t : ByteArray) (nh ah : Sh) (w : World) (hB : Bld w p st) :
    Calls Tryd.prog 17 #[.agg #[.pointer p], .agg #[.int .i64 25, .string t, .slice nh.1 nh.2.1 nh.2.2, .slice ah.1 ah.2.1 ah.2.2, .slice none 0 0, .slice none 0 0, .slice none 0 0, .int .u64 0]] w fun e w' => StepPost w w' (ap st (.into t)) e := by
  have HB := Lib.hid hB
  clear hB
  go_enter Tryd.func17, Tryd.ntmps17
  go_wp2_with fail
  refine (into23 p t _).mono ?_
  rintro e w1 ⟨b, rfl, hh, hb⟩
  have hs := hb.size
  have hc : w1.cell? ⟨w.heap.size + 1 + 1, 0, none⟩ = some (.pointer none) := (blk_cell (blk_of_below hb (blk3_2 w _ _ _)) 0).trans rfl
  have hf : w1.frozen? ⟨w.heap.size + 1 + 1, 0, none⟩ = false := blk_frozen (blk_of_below hb (blk3_2 w _ _ _)) 0
  have HH := Lib.hid hh
  have HBB := Lib.hid hb
  clear hh hb
  go_wp2
  refine bodyPost_ret (v := .tuple #[.agg #[.pointer (some ⟨b, 0, none⟩)], .bool true]) (by simp [results, Tryd.results17, go_sem, hc]) rfl ?_
  exact StepPost.of (HB.out.into (NewEntry.stored (k := w.heap.size + 1 + 1) (by omega) (by simp) (by go_grown) (blk3_2 w _ _ _) (by decide) HH.out HBB.out))

set_option maxRecDepth 100000 in
set_option maxHeartbeats 4000000 in
theorem step17_cols (p : Option Addr) (st : St) (t : ByteArray) (xs : List ByteArray) (A : Option Addr) (c : Nat) (ah : Sh) (w : World) (hB : Bld w p st) (hx : Kd.string.C w A xs.length xs) (hl : st.cols.length + xs.length ≤ 1000) :
    Calls Tryd.prog 17 #[.agg #[.pointer p], .agg #[.int .i64 1, .string t, .slice A xs.length c, .slice ah.1 ah.2.1 ah.2.2, .slice none 0 0, .slice none 0 0, .slice none 0 0, .int .u64 0]] w fun e w' => StepPost w w' (ap st (.cols xs)) e := by
  obtain ⟨es, h1, h2, h3, h4, ⟨vs, h5, h6⟩, h7⟩ := hB
  have H1 := Lib.hid h1
  have H2 := Lib.hid h2
  have H3 := Lib.hid h3
  have H4 := Lib.hid h4
  have H5 := Lib.hid h5
  have H6 := Lib.hid h6
  have H7 := Lib.hid h7
  have HX := Lib.hid hx
  clear h1 h2 h3 h4 h5 h6 h7 hx
  go_enter Tryd.func17, Tryd.ntmps17
  go_wp2_with fail
  refine (columns24 p es (st.cols.map strI) xs A c _ (H1.out.keep (by go_grown)) (H4.out.keep (by go_grown)) (Kd.C_below HX.out (by go_grown)) (by simpa using hl)).mono ?_
  rintro e w1 ⟨lv, ⟨b, rfl, hh, hb⟩, hR⟩
  have hs := hb.size
  have hc : w1.cell? ⟨w.heap.size + 1 + 1, 0, none⟩ = some (.pointer none) := (blk_cell (blk_of_below hb (blk3_2 w _ _ _)) 0).trans rfl
  have hf : w1.frozen? ⟨w.heap.size + 1 + 1, 0, none⟩ = false := blk_frozen (blk_of_below hb (blk3_2 w _ _ _)) 0
  have HH := Lib.hid hh
  have HBB := Lib.hid hb
  have HR := Lib.hid hR
  clear hh hb hR
  go_wp2
  refine bodyPost_ret (v := .tuple #[.agg #[.pointer (some ⟨b, 0, none⟩)], .bool true]) (by simp [results, Tryd.results17, go_sem, hc]) rfl ?_
  exact StepPost.of (Bld.columns H1.out H2.out H3.out H5.out H6.out H7.out (NewList.stored (k := w.heap.size + 1 + 1) (by omega) (by simp) (by go_grown) (blk3_2 w _ _ _) (by decide) (by decide) HH.out HBB.out HR.out))


theorem C_ptr {w : World} {A : Option Addr} {n : Nat} {xs : List Iv} (h : kI.C w A n xs) {k : Nat} {p : Option Addr} {t : TypeId} (hk : w.heap[k]? = some (.cells #[.pointer p] t (0, 0))) (u : Value) : kI.C (w.setCell ⟨k, 0, none⟩ u) A n xs := by
  refine ⟨h.1, h.2.1, fun h0 => ?_⟩
  obtain ⟨ad, e, hc⟩ := h.2.2 h0
  refine ⟨ad, e, fun j x hj => ?_⟩
  obtain ⟨c, hl, hK, hcell⟩ := hc j x hj
  refine ⟨c, hl, hK, fun i v hi => ?_⟩
  have h1 := hcell i v hi
  have hK' : c = [encI x] := hK
  have hne : (ad.add (j * kI.sz + i)).block ≠ k := by
    intro hb
    generalize ad.add (j * kI.sz + i) = a at h1 hb
    unfold World.cell? at h1
    rw [hb, hk] at h1
    simp only at h1
    split at h1
    · cases h1
    · have hv : v = .pointer p := by
        generalize a.off = o at h1
        rcases o with _ | o
        · simpa using h1.symm
        · simp at h1
      rw [hK'] at hi
      rcases i with _ | i
      · simp only [List.getElem?_cons_zero, Option.some.injEq] at hi
        rw [hv] at hi
        rcases x with _ | ⟨t, x⟩ <;> cases hi
      · simp at hi
  exact (cell_far hne u).trans h1
theorem RI.far {w : World} {v : Value} {xs : List Iv} (h : RI w v xs) {k : Nat} {p : Option Addr} {t : TypeId} (hk : w.heap[k]? = some (.cells #[.pointer p] t (0, 0))) (u : Value) : RI (w.setCell ⟨k, 0, none⟩ u) v xs := by
  obtain ⟨A, c, e, hl, hc⟩ := h
  exact ⟨A, c, e, hl, C_ptr hc hk u⟩
theorem Has.far {w : World} {es : List (ByteArray × Iv)} {nm : ByteArray} {row : List Iv} (h : Has w es nm row) {k : Nat} {p : Option Addr} {t : TypeId} (hk : w.heap[k]? = some (.cells #[.pointer p] t (0, 0))) (u : Value) : Has (w.setCell ⟨k, 0, none⟩ u) es nm row :=
  h.imp id (fun ⟨lv, h1, h2⟩ => ⟨lv, h1, h2.far hk u⟩)
theorem Rs.far {w : World} {k : Nat} {p : Option Addr} {t : TypeId} (hk : w.heap[k]? = some (.cells #[.pointer p] t (0, 0))) (u : Value) : ∀ {vs : List Iv} {rows : List (List S38)}, Rs w vs rows → Rs (w.setCell ⟨k, 0, none⟩ u) vs rows
  | _, _, .nil => .nil
  | _, _, .cons h tl => .cons (C_ptr h hk u) (tl.far hk u)
theorem Bld.far {w : World} {q : Option Addr} {st : St} (h : Bld w q st) {k : Nat} {p : Option Addr} {t : TypeId} (hk : w.heap[k]? = some (.cells #[.pointer p] t (0, 0))) (ht : t ≠ 86) (u : Value) : Bld (w.setCell ⟨k, 0, none⟩ u) q st := by
  obtain ⟨es, h1, h2, h3, h4, ⟨vs, h5, h6⟩, h7⟩ := h
  exact ⟨es, h1.far hk ht u, h2, h3, h4.far hk u, ⟨vs, h5.far hk u, h6.far hk u⟩, h7⟩


theorem Bld.values' {w w' : World} {p : Option Addr} {st : St} {es : List (ByteArray × Iv)} {vs : List Iv} (h1 : Ch w p es) (h2 : find es nPF = some (some (49, .agg #[]))) (h3 : find es nInto = some (strI st.tbl)) (h4 : Has w es nColumns (st.cols.map strI)) (h6 : Rs w vs st.rows)
    (h7 : find es nPrefixes = none ∧ find es nKeyword = none ∧ find es nOptions = none ∧ find es nSuffixes = none ∧ find es nSelect = none) {e : Ending} {xs : List S38} {A : Option Addr} {c : Nat} (hx : kI.C w' A xs.length (xs.map anyOf)) (hn : NewList w w' nValues p (vs ++ [some (61, .slice A xs.length c)]) e) :
    ∃ b, e = .returned (.agg #[.pointer (some ⟨b, 0, none⟩)]) ∧ Bld w' (some ⟨b, 0, none⟩) ⟨st.tbl, st.cols, st.rows ++ [xs]⟩ ∧ Below w.heap.size w w' := by
  obtain ⟨h7, h8, h9, h10, h11⟩ := h7
  obtain ⟨lv, hn, hR⟩ := hn
  obtain ⟨b, he, hc, hb⟩ := hn.chain h1
  exact ⟨b, he, ⟨_, hc, (find_skip (by kernel_rfl)).trans h2, (find_skip (by kernel_rfl)).trans h3, (h4.keep hb).cons (by kernel_rfl), ⟨_, .inr ⟨lv, find_hit, Kd.R_reads hR⟩, (h6.keep hb).snoc hx⟩, (find_skip (by kernel_rfl)).trans h7, (find_skip (by kernel_rfl)).trans h8, (find_skip (by kernel_rfl)).trans h9, (find_skip (by kernel_rfl)).trans h10, (find_skip (by kernel_rfl)).trans h11⟩, hb⟩
set_option maxRecDepth 100000 in
set_option maxHeartbeats 16000000 in
theorem step17_vals (p : Option Addr) (st : St) (t : ByteArray) (xs : List S38) (A : Option Addr) (c : Nat) (nh : Sh) (w : World) (hB : Bld w p st) (hx : k38.C w A xs.length xs) (hp : ∀ x ∈ xs, 0 ≤ x.f0 ∧ x.f0 ≤ 4) (hxl : xs.length ≤ 1000) (hl : st.rows.length ≤ 1000) :
    Calls Tryd.prog 17 #[.agg #[.pointer p], .agg #[.int .i64 26, .string t, .slice nh.1 nh.2.1 nh.2.2, .slice A xs.length c, .slice none 0 0, .slice none 0 0, .slice none 0 0, .int .u64 0]] w fun e w' => StepPost w w' (ap st (.vals xs)) e := by
  obtain ⟨es, h1, h2, h3, h4, ⟨vs, h5, h6⟩, h7⟩ := hB
  have hvl := h6.len
  have H1 := Lib.hid h1
  have H2 := Lib.hid h2
  have H3 := Lib.hid h3
  have H4 := Lib.hid h4
  have H5 := Lib.hid h5
  have H6 := Lib.hid h6
  have H7 := Lib.hid h7
  have HX := Lib.hid hx
  have HP := Lib.hid hp
  clear h1 h2 h3 h4 h5 h6 h7 hx hp
  go_enter Tryd.func17, Tryd.ntmps17
  go_wp2_with fail
  obtain ⟨W0, hW⟩ : ∃ W0, W0 = ((w.alloc (.cells #[.pointer p] 46)).alloc (.cells #[.int .i64 26, .string t, .slice nh.1 nh.2.1 nh.2.2, .slice A xs.length c, .slice none 0 0, .slice none 0 0, .slice none 0 0, .int .u64 0] 31)).alloc (.cells #[.pointer none] 46) := ⟨_, rfl⟩
  rw [← hW]
  have hsz : W0.heap.size = w.heap.size + 3 := by simp [hW]
  have hBW : Below w.heap.size w W0 := by rw [hW]; go_grown
  have hb0 : W0.heap[w.heap.size]? = some (.cells #[.pointer p] 46 (0, 0)) := by rw [hW]; exact blk3_0 _ _ _ _
  have hb1 : W0.heap[w.heap.size + 1]? = some (.cells #[.int .i64 26, .string t, .slice nh.1 nh.2.1 nh.2.2, .slice A xs.length c, .slice none 0 0, .slice none 0 0, .slice none 0 0, .int .u64 0] 31 (0, 0)) := by rw [hW]; exact blk3_1 _ _ _ _
  have hh : W0.heap[w.heap.size + 1 + 1]? = some (.cells #[.pointer none] 46 (0, 0)) := by rw [hW]; exact blk3_2 _ _ _ _
  have hc0 : W0.cell? ⟨w.heap.size, 0, none⟩ = some (.pointer p) := (blk_cell hb0 0).trans rfl
  have hc4 : W0.cell? ⟨w.heap.size + 1, 4, none⟩ = some (.slice none 0 0) := (blk_cell hb1 4).trans rfl
  have hc : W0.cell? ⟨w.heap.size + 1 + 1, 0, none⟩ = some (.pointer none) := (blk_cell hh 0).trans rfl
  have hf : W0.frozen? ⟨w.heap.size + 1 + 1, 0, none⟩ = false := blk_frozen hh 0
  clear hW hb0 hb1
  have HH := Lib.hid hh
  have HBW := Lib.hid hBW
  have HSZ := Lib.hid hsz
  clear hh hBW hsz
  refine (goList25 xs A c _ (Kd.C_below HX.out HBW.out) HP.out hxl).mono ?_
  rintro e w1 ⟨v1, rfl, hR1, hb1⟩
  have hc4' : w1.cell? ⟨w.heap.size + 1, 4, none⟩ = some (.slice none 0 0) := pw_cell_below hb1 hc4
  have HB1 := Lib.hid hb1
  have HR1 := Lib.hid hR1
  clear hb1 hR1
  go_wp2_with fail
  refine (many26 _).mono ?_
  rintro e w2 ⟨rfl, hb2⟩
  have hb02 := HB1.out.trans (hb2.mono HB1.out.size)
  have hR2 := Kd.R_below HR1.out hb2
  have hc0' : w2.cell? ⟨w.heap.size, 0, none⟩ = some (.pointer p) := pw_cell_below hb02 hc0
  have HB2 := Lib.hid hb02
  have HR2 := Lib.hid hR2
  clear hb2 hb02 hR2
  go_wp2_with fail
  have hlen : (xs.map anyOf).length = xs.length := List.length_map ..
  go_region_held3 (fun w' => w'.cell? ⟨w.heap.size, 0, none⟩ = some (.pointer p))
    (first | exact hc0' | exact hS4 | exact hS3 | (simp [go_sem, hS4]; done))
    (first
      | (with_reducible show Calls _ _ _ _ _
         refine (values27 p es vs A3 _ c3 _ (H1.out.keep (HBW.out.trans (hB3.mono HBW.out.size))) (H5.out.keep (HBW.out.trans (hB3.mono HBW.out.size))) (by omega)).mono ?_
         rintro e w4 ⟨lv, ⟨b, rfl, hh4, hb4⟩, hR4⟩
         have hB4 : Below W0.heap.size W0 w4 := hB3.trans (hb4.mono hB3.size)
         have hS4 : w4.cell? ⟨w.heap.size, 0, none⟩ = some (.pointer p) := pw_cell_below hB4 hc0
         have hc4x : w4.cell? ⟨w.heap.size + 1 + 1, 0, none⟩ = some (.pointer none) := pw_cell_below hB4 hc
         have hf4 : w4.frozen? ⟨w.heap.size + 1 + 1, 0, none⟩ = false := (hB4.frozen (p := ⟨w.heap.size + 1 + 1, 0, none⟩) (by have := HSZ.out; simp only; omega)).trans hf)
      | (fail_if_success (have hgate := hS3)
         refine Kd.R_append_rows_step kI (w0 := W0) W0.heap.size (by rfl) (.tmp 51) (.tmp 52) 61 20 .nilIface 16 rfl Tryd.underlying61 Tryd.info20 rfl Nat.one_pos (by decide) _ (xs.map anyOf) [] none 0 0 (fun _ => True) (fun _ => False) rfl rfl (Kd.R_drew HR2.out) (Kd.R_reads' (Kd.R_nil kI 20 _ 0 (fun _ => True))).2.2 (fun _ _ h => h) (fun _ h => h.elim) (fun _ _ => trivial) (by have := HB2.out; go_grown) (HB2.out.size) (by simp <;> omega) ?_
         intro v3 w3 hR3 hB3 _ _
         have hS3 : w3.cell? ⟨w.heap.size, 0, none⟩ = some (.pointer p) := pw_cell_below hB3 hc0
         obtain ⟨A3, c3, rfl, hl3, hr3⟩ := Kd.R_reads hR3))
  have hh3 := blk_of_below hB3 HH.out
  have hw3 := HBW.out.trans (hB3.mono HBW.out.size)
  have hr4 := Kd.C_below hr3 hb4
  have hh34 := blk_of_below hb4 hh3
  have hs3 := hB3.size
  have HR4 := Lib.hid hr4
  have HH3 := Lib.hid hh3
  have HH34 := Lib.hid hh34
  have HW3 := Lib.hid hw3
  have HH4 := Lib.hid hh4
  have HB4 := Lib.hid hb4
  have HRR := Lib.hid hR4
  clear hr3 hB3 hh4 hb4 hB4 hR4 hR3 hr4 hh3 hh34 hw3
  go_wp2
  refine bodyPost_ret (v := .tuple #[.agg #[.pointer (some ⟨b, 0, none⟩)], .bool true]) (by simp [results, Tryd.results17, go_sem, hc4x]) rfl ?_
  have hn := NewList.stored (W := w3) (k := w.heap.size + 1 + 1) (by omega) (by have := HSZ.out; omega) HW3.out HH3.out (by decide) (by decide) HH4.out HB4.out HRR.out
  have hc := C_ptr HR4.out HH34.out (.pointer (some ⟨b, 0, none⟩))
  simp only [List.append_nil, List.length_map] at hn hc
  exact StepPost.of (Bld.values' H1.out H2.out H3.out H4.out H6.out H7.out hc hn)
end Go.Proofs.YtkefdfnlnkeigaaDoor

import Derived.Test.YtkefdfnlnkeigaaDoorB
namespace Go.Proofs.YtkefdfnlnkeigaaDoor
open Go.RowKit Go.Proofs.YtkefdfnlnkeigaaDoorW.PrintWords Go.Proofs.YtkefdfnlnkeigaaDoor.PFnRows

theorem Tryd.info20 : (Tryd.prog.info? 20).map (fun i => (i.zero, i.size, i.bytes)) = some (some .nilIface, 1, 16) := by kernel_rfl
theorem R_empty {α : Type} (d : Kd α) (e : Nat) (W : World) (base : Nat) (h : base ≤ W.heap.size) : d.R e (W.alloc (.cells #[] e)) base (fun _ => True) (.slice (some ⟨W.heap.size, 0, none⟩) 0 0) [] :=
  ⟨fun _ _ => trivial, [], by have := World.ownsRow_lit (base := base) (e := e) (size := d.sz) W #[] 0 h (by simp [maxLen]) (by simp); simpa using this, Reps.none _ _⟩
theorem take_snoc_map {α β : Type} (f : α → β) (xs : List α) (j : Nat) (h : j < xs.length) : (xs.take (j + 1)).map f = (xs.take j).map f ++ [f xs[j]] := by
  rw [List.take_succ_eq_append_getElem h, List.map_append]; rfl
theorem rd_T38_at (xs : List S38) (j : Nat) (h : j < xs.length) : rd_T38 xs (j : Int) = xs[j] := by
  unfold rd_T38; rw [Int.toNat_natCast, List.getD_eq_getElem?_getD, List.getElem?_eq_getElem h]; rfl

theorem encI_cells (v : Iv) : (encI v).cells = #[encI v] := by cases v <;> rfl
set_option maxRecDepth 100000 in
set_option maxHeartbeats 1000000 in
theorem goList25 (xs : List S38) (A : Option Addr) (c : Nat) (w : World) (hr : k38.C w A xs.length xs) (hp : ∀ x ∈ xs, 0 ≤ x.f0 ∧ x.f0 ≤ 4) (hl : xs.length ≤ 1000) :
    Calls Tryd.prog 25 #[.slice A xs.length c, .int .i64 0] w fun e w' => ∃ v, e = .returned (.tuple #[v, .bool true]) ∧ kI.R 20 w' w.heap.size (fun _ => True) v (xs.map anyOf) ∧ Below w.heap.size w w' := by
  have HR := Lib.hid hr
  have HP := Lib.hid hp
  clear hr hp
  go_enter Tryd.func25, Tryd.ntmps25
  go_wp2
  go_loopg [6, 14] xs.length (fun k v i wr => ∃ j : Nat, i = .int .i64 j ∧ j ≤ xs.length ∧ Aside0 (j + k = xs.length) ∧ Aside0 (kI.R 20 wr w.heap.size (fun _ => True) v ((xs.take j).map anyOf)) ∧ Aside0 (Below w.heap.size w wr))
  case atStart => exact ⟨0, rfl, Nat.zero_le _, ⟨by omega⟩, ⟨R_empty kI 20 w _ (Nat.le_refl _)⟩, ⟨by go_grown⟩⟩
  case round =>
    obtain ⟨j, rfl, hj, hk, hR, hb⟩ := hrel
    by_cases hlt : j < xs.length
    · obtain ⟨ad, A3, c3, rfl, hx0, hx1, hx2, hx3, _, _⟩ := at_T38 HR.out (j : Int) (by omega) (by omega)
      have hx := rd_T38_at xs j hlt
      have hpx := HP.out _ (List.getElem_mem hlt)
      rw [hx] at hx0 hx1 hx2 hx3
      simp only [Int.toNat_natCast] at hx0 hx1 hx2 hx3
      generalize hX : xs[j] = x at *
      replace hx0 := pw_cell_below hb.out hx0
      replace hx1 := pw_cell_below hb.out hx1
      replace hx2 := pw_cell_below hb.out hx2
      replace hx3 := pw_cell_below hb.out hx3
      have hsn := take_snoc_map anyOf xs j hlt
      have HX := Lib.hid hX
      have HSN := Lib.hid hsn
      clear hX hsn hx
      obtain ⟨hp0, hp4⟩ := hpx
      go_wp2_with fail
      refine (goOf38 x A3 x.f3.length c3 hp0 hp4 _).mono ?_
      rintro e w2 ⟨rfl, hb2⟩
      have hs2 := hb2.size
      have hsz := hb.out.size
      have HB2 := Lib.hid (hb.out.trans ((((Below.refl wr.heap.size wr).alloc (Nat.le_refl _) _).trans (hb2.mono (by simp))).mono hsz))
      have HR2 := Lib.hid (Kd.R_below hR.out (((Below.refl wr.heap.size wr).alloc (Nat.le_refl _) _).trans (hb2.mono (by simp))))
      clear hb2 hR
      simp at hs2
      have hcl := encI_cells (anyOf x)
      unfold Value.cells at hcl
      go_wp2_with (first | (at_builtin; refine Kd.R_append kI (w0 := w) w.heap.size rfl (.tmp 26) (.tmp 28) 61 20 .nilIface 16 rfl Tryd.underlying61 Tryd.info20 rfl Nat.one_pos (by decide) _ ((xs.take j).map anyOf) (anyOf x) [encI (anyOf x)] (fun _ => True) (fun _ => False) rfl rfl rfl (fun _ h => h.elim) (fun _ _ => trivial) HR2.out HB2.out (by omega) (by simp; omega) ?_))
      intro v1 w3 hR3 hB3 _ _
      have HR3 := Lib.hid hR3
      have HB3 := Lib.hid hB3
      clear hR3 hB3
      go_wp2
      go_roundg (gk - 1)
      case measure => have := hk.out; omega
      case rel => exact ⟨j + 1, by go_num, by omega, ⟨by have := hk.out; omega⟩, ⟨by rw [HSN.out, HX.out, List.map_take]; exact HR3.out⟩, ⟨HB3.out⟩⟩
    · obtain rfl : j = xs.length := by omega
      have HRf := Lib.hid hR.out
      clear hR
      go_wp2
      go_returns
      refine ⟨_, rfl, ?_, hb.out⟩
      have := HRf.out
      rwa [List.take_length] at this

theorem Tryd.info38 : (Tryd.prog.info? 38).map (fun i => (i.zero, i.size, i.bytes)) = some (some (.agg #[.int .i64 0, .int .i64 0, .string ⟨#[]⟩, .slice none 0 0]), 4, 56) := by kernel_rfl
theorem at_kI {w : World} {A : Option Addr} {n : Nat} {xs : List Iv} (h : kI.C w A n xs) (j : Nat) (hj : j < n) : ∃ ad x, A = some ad ∧ xs[j]? = some x ∧ w.cell? (ad.add j) = some (encI x) := by
  obtain ⟨ad, e, hc⟩ := h.2.2 (by omega)
  have hl : j < xs.length := by have := h.1; omega
  obtain ⟨c, _, hK, hcell⟩ := hc j _ (List.getElem?_eq_getElem hl)
  have hK' : c = [encI xs[j]] := hK
  subst hK'
  refine ⟨ad, xs[j], e, List.getElem?_eq_getElem hl, ?_⟩
  have h2 := hcell 0 _ rfl
  have hsz : kI.sz = 1 := rfl
  rw [hsz, Nat.mul_one, Nat.add_zero] at h2
  exact h2

set_option maxRecDepth 100000 in
set_option maxHeartbeats 1000000 in
theorem valuesOf36 (xs : List S38) (A : Option Addr) (c : Nat) (w : World) (hr : kI.C w A xs.length (xs.map anyOf)) (hp : ∀ x ∈ xs, Plain x) (hl : xs.length ≤ 1000) :
    Calls Tryd.prog 36 #[.slice A xs.length c] w fun e w' => ∃ v, e = .returned v ∧ k38.R 38 w' w.heap.size (fun _ => True) v xs ∧ Below w.heap.size w w' := by
  have HR := Lib.hid hr
  have HP := Lib.hid hp
  clear hr hp
  go_enter Tryd.func36, Tryd.ntmps36
  go_wp2
  go_loopg [3, 8] xs.length (fun k v i wr => ∃ j : Nat, i = .int .i64 j ∧ j ≤ xs.length ∧ Aside0 (j + k = xs.length) ∧ Aside0 (k38.R 38 wr w.heap.size (fun _ => True) v (xs.take j)) ∧ Aside0 (Below w.heap.size w wr))
  case atStart => exact ⟨0, rfl, Nat.zero_le _, ⟨by omega⟩, ⟨Kd.R_nil _ _ _ _ _⟩, ⟨by go_grown⟩⟩
  case round =>
    obtain ⟨j, rfl, hj, hk, hR, hb⟩ := hrel
    by_cases hlt : j < xs.length
    · obtain ⟨ad, y, rfl, hy, hx0⟩ := at_kI HR.out j hlt
      have hpx := HP.out _ (List.getElem_mem hlt)
      obtain rfl : anyOf xs[j] = y := by
        rw [List.getElem?_map, List.getElem?_eq_getElem hlt] at hy
        simpa using hy
      clear hy
      have hsn : xs.take (j + 1) = xs.take j ++ [xs[j]] := List.take_succ_eq_append_getElem hlt
      generalize hX : xs[j] = x at *
      clear hX
      replace hx0 := pw_cell_below hb.out hx0
      have HSN := Lib.hid hsn
      have HPX := Lib.hid hpx
      have h3 : x.f3 = [] := hpx.1
      have H3 := Lib.hid h3
      clear hsn hpx h3
      have hcl := encI_cells (anyOf x)
      unfold Value.cells at hcl
      go_wp2_with fail
      refine (valueOf42 x HPX.out _).mono ?_
      rintro e w2 ⟨rfl, hb2⟩
      have hs2 := hb2.size
      have hsz := hb.out.size
      have HB2 := Lib.hid (hb.out.trans (hb2.mono hsz))
      have HR2 := Lib.hid (Kd.R_below hR.out hb2)
      clear hb2 hR
      have hmk := Lib.hid (k38_mkM w2 w.heap.size (fun _ => False) x (v3 := .slice none 0 0) (by rw [H3.out]; exact Kd.R_nil _ _ _ _ _))
      go_wp2_with (first | (at_builtin; refine Kd.R_append k38 (w0 := w) w.heap.size rfl (.tmp 12) (.tmp 15) 26 38 (.agg #[.int .i64 0, .int .i64 0, .string ⟨#[]⟩, .slice none 0 0]) 56 rfl Tryd.underlying26 Tryd.info38 rfl (by decide) (by decide) _ (xs.take j) x [.int .i64 x.f0, .int .i64 x.f1, .string x.f2, .slice none 0 0] (fun _ => True) (fun _ => False) rfl rfl hmk.out (fun _ h => h.elim) (fun _ _ => trivial) HR2.out HB2.out (by omega) (by simp; omega) ?_))
      intro v1 w3 hR3 hB3 _ _
      have HR3 := Lib.hid hR3
      have HB3 := Lib.hid hB3
      clear hR3 hB3
      go_wp2
      go_roundg (gk - 1)
      case measure => have := hk.out; omega
      case rel => exact ⟨j + 1, by go_num, by omega, ⟨by have := hk.out; omega⟩, ⟨by rw [HSN.out]; exact HR3.out⟩, ⟨HB3.out⟩⟩
    · obtain rfl : j = xs.length := by omega
      have HRf := Lib.hid hR.out
      clear hR
      go_wp2
      go_returns
      refine ⟨_, rfl, ?_, hb.out⟩
      have := HRf.out
      rwa [List.take_length] at this
end Go.Proofs.YtkefdfnlnkeigaaDoor

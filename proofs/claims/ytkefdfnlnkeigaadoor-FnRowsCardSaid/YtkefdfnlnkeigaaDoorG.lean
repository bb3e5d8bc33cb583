import Derived.Test.YtkefdfnlnkeigaaDoorF
import Derived.Deep.RegionHeld3
namespace Go.Proofs.YtkefdfnlnkeigaaDoor
open Go.RowKit Go.Proofs.YtkefdfnlnkeigaaDoorW.PrintWords Go.Proofs.YtkefdfnlnkeigaaDoor.PFnRows
theorem step17 (p : Option Addr) (st : St) (s : Stp) (d : Do) (w : World) (hB : Bld w p st) (hD : Does w s d) (hc : (ap st d).cols.length ≤ 1000) (hr : (ap st d).rows.length ≤ 1000) :
    Calls Tryd.prog 17 #[.agg #[.pointer p], .agg #[.int .i64 s.op, .string s.text, .slice s.nh.1 s.nh.2.1 s.nh.2.2, .slice s.ah.1 s.ah.2.1 s.ah.2.2, .slice none 0 0, .slice none 0 0, .slice none 0 0, .int .u64 0]] w fun e w' => StepPost w w' (ap st d) e := by
  cases hD with
  | into t nh ah => exact step17_into p st t nh ah w hB
  | cols hx => exact step17_cols p st _ _ _ _ _ w hB hx (by simpa [ap] using hc)
  | vals hx hp hl => exact step17_vals p st _ _ _ _ _ w hB hx hp hl (by simp [ap] at hr; omega)

set_option maxRecDepth 100000 in
set_option maxHeartbeats 1000000 in
theorem inserted11 (p : Option Addr) (st : St) (xs : List Stp) (ds : List Do) (A : Option Addr) (c : Nat) (w : World) (hB : Bld w p st) (hr : kS.C w A xs.length xs) (hlen : ds.length = xs.length)
    (hD : ∀ (j : Nat) (s : Stp) (d : Do), xs[j]? = some s → ds[j]? = some d → Does w s d) (hsz : ∀ j : Nat, ((ds.take j).foldl ap st).cols.length ≤ 1000 ∧ ((ds.take j).foldl ap st).rows.length ≤ 1000) (hl : xs.length ≤ 1000) :
    Calls Tryd.prog 11 #[.agg #[.pointer p], .slice A xs.length c, .iface 49 (.agg #[])] w fun e w' => ∃ q, e = .returned (.tuple #[.iface 46 (.agg #[.pointer q]), .bool true]) ∧ Bld w' q (ds.foldl ap st) ∧ Below w.heap.size w w' := by
  have HB := Lib.hid hB
  have HR := Lib.hid hr
  have HD := Lib.hid hD
  have HS := Lib.hid hsz
  clear hB hr hD hsz
  go_enter Tryd.func11, Tryd.ntmps11
  go_wp2_with fail
  refine (pf16 p (some (49, .agg #[])) _).mono ?_
  intro e w1 h1
  have hbb := h1
  obtain ⟨_, _, _, hb1⟩ := hbb
  obtain ⟨b1, rfl, hB1, _⟩ := (HB.out.keep ((Below.refl _ _).alloc (Nat.le_refl _) _)).pf h1
  have hh : (w.alloc (.cells #[.pointer p] 46)).heap[w.heap.size]? = some (.cells #[.pointer p] 46 (0, 0)) := new_at _ _ _ rfl
  have hh1 := blk_of_below hb1 hh
  have hc1 : w1.cell? ⟨w.heap.size, 0, none⟩ = some (.pointer p) := (blk_cell hh1 0).trans rfl
  have hf1 : w1.frozen? ⟨w.heap.size, 0, none⟩ = false := blk_frozen hh1 0
  have hw1 : Below w.heap.size w w1 := ((Below.refl _ _).alloc (Nat.le_refl _) _).trans (hb1.mono (by simp))
  have HH1 := Lib.hid hh1
  have HW1 := Lib.hid hw1
  have HB1 := Lib.hid hB1
  clear hh hh1 hw1 hB1 hb1 h1
  go_wp2
  go_loopg [16] xs.length (fun k i wr => ∃ (j : Nat) (q : Option Addr), i = .int .i64 j ∧ j ≤ xs.length ∧ Aside0 (j + k = xs.length) ∧ Aside0 (wr.heap[w.heap.size]? = some (.cells #[.pointer q] 46 (0, 0))) ∧ Aside0 (Bld wr q ((ds.take j).foldl ap st)) ∧ Aside0 (Below w.heap.size w wr))
  case atStart => exact ⟨0, some ⟨b1, 0, none⟩, rfl, Nat.zero_le _, ⟨by omega⟩, ⟨blk_put HH1.out 0 _ rfl⟩, ⟨HB1.out.far HH1.out (by decide) _⟩, ⟨HW1.out.setCell (Nat.le_refl _) _⟩⟩
  case round =>
    obtain ⟨j, q, rfl, hj, hk, hh, hB, hb⟩ := hrel
    have hcq : wr.cell? ⟨w.heap.size, 0, none⟩ = some (.pointer q) := (blk_cell hh.out 0).trans rfl
    by_cases hlt : j < xs.length
    · obtain ⟨ad, s, rfl, hy, h0, h1, h2, h3, h4, h5, h6, h7⟩ := at_kS HR.out j hlt
      have hltd : j < ds.length := by omega
      have hdj : ds[j]? = some ds[j] := List.getElem?_eq_getElem hltd
      have hDj := (HD.out j s _ hy hdj).keep hb.out
      have hsn : (ds.take (j + 1)).foldl ap st = ap ((ds.take j).foldl ap st) ds[j] := by
        rw [List.take_succ_eq_append_getElem hltd, List.foldl_append]; rfl
      have hsz1 := HS.out (j + 1)
      rw [hsn] at hsz1
      have HSN := Lib.hid hsn
      generalize ds[j] = d at hDj hsz1 HSN
      have HDJ := Lib.hid hDj
      have HSZ := Lib.hid hsz1
      clear hdj hDj hsn hsz1 hy
      replace h0 := pw_cell_below hb.out h0
      replace h1 := pw_cell_below hb.out h1
      replace h2 := pw_cell_below hb.out h2
      replace h3 := pw_cell_below hb.out h3
      replace h4 := pw_cell_below hb.out h4
      replace h5 := pw_cell_below hb.out h5
      replace h6 := pw_cell_below hb.out h6
      replace h7 := pw_cell_below hb.out h7
      have hklt := blk_lt hh.out
      go_wp2_with fail
      refine (step17 q _ s d _ (hB.out.keep ((Below.refl _ _).alloc (Nat.le_refl _) _)) (HDJ.out.keep ((Below.refl _ _).alloc (Nat.le_refl _) _)) HSZ.out.1 HSZ.out.2).mono ?_
      rintro e w2 ⟨b2, rfl, hB2, hb2⟩
      have hb2' := ((Below.refl wr.heap.size wr).alloc (Nat.le_refl _) _).trans (hb2.mono (by simp))
      have hh2 := blk_of_below hb2' hh.out
      have hc2 : w2.cell? ⟨w.heap.size, 0, none⟩ = some (.pointer q) := (blk_cell hh2 0).trans rfl
      have hf2 : w2.frozen? ⟨w.heap.size, 0, none⟩ = false := blk_frozen hh2 0
      have hbw2 := hb.out.trans (hb2'.mono hb.out.size)
      have HH2 := Lib.hid hh2
      have HB2 := Lib.hid hB2
      have HBW2 := Lib.hid hbw2
      clear hh2 hB2 hb2 hb2' hbw2 h0 h1 h2 h3 h4 h5 h6 h7 hh hB hcq
      go_wp2
      go_roundg (gk - 1)
      case measure => have := hk.out; omega
      case rel => exact ⟨j + 1, some ⟨b2, 0, none⟩, by go_num, by omega, ⟨by have := hk.out; omega⟩, ⟨blk_put HH2.out 0 _ rfl⟩, ⟨HSN.out ▸ HB2.out.far HH2.out (by decide) _⟩, ⟨HBW2.out.setCell (Nat.le_refl _) _⟩⟩
    · obtain rfl : j = xs.length := by omega
      have hBf : Bld wr q (ds.foldl ap st) := by
        have := hB.out
        rwa [← hlen, List.take_length] at this
      have HBf := Lib.hid hBf
      clear hBf hB
      go_wp2
      go_returns
      exact ⟨q, rfl, HBf.out, hb.out⟩

theorem Bld.first {w : World} {q : Option Addr} (h : Ch w q (es0 ⟨#[]⟩)) : Bld w q ⟨⟨#[]⟩, [], []⟩ :=
  ⟨_, h, by kernel_rfl, by kernel_rfl, .inl ⟨by kernel_rfl, rfl⟩, ⟨[], .inl ⟨by kernel_rfl, rfl⟩, .nil⟩, by kernel_rfl, by kernel_rfl, by kernel_rfl, by kernel_rfl, by kernel_rfl⟩

end Go.Proofs.YtkefdfnlnkeigaaDoor

import Derived.Test.YtkefdfnlnkeigaaDoorC
import Derived.Deep.RegionHeld3
namespace Go.Proofs.YtkefdfnlnkeigaaDoor
open Go.RowKit Go.Proofs.YtkefdfnlnkeigaaDoorW.PrintWords Go.Proofs.YtkefdfnlnkeigaaDoor.PFnRows
/-! ### SameValue, SameValues -/
set_option maxRecDepth 100000 in
set_option maxHeartbeats 2000000 in
theorem same8_nil (A A' : Option Addr) (c c' : Nat) (w : World) :
    Calls Tryd.prog 8 #[.slice A 0 c, .slice A' 0 c'] w fun e w' => e = .returned (.bool true) ∧ w' = w := by
  go_enter Tryd.func8, Tryd.ntmps8
  go_wp2
  refine wp_loop_rounds 1 ?_
  rw [rounds_succ]
  go_wp2
  go_returns
  exact ⟨rfl, rfl⟩
set_option maxRecDepth 100000 in
set_option maxHeartbeats 2000000 in
theorem same14 (f0 f1 : Int) (f2 : ByteArray) (A A' : Option Addr) (c c' : Nat) (w : World) :
    Calls Tryd.prog 14 #[.agg #[.int .i64 f0, .int .i64 f1, .string f2, .slice A 0 c], .agg #[.int .i64 f0, .int .i64 f1, .string f2, .slice A' 0 c']] w fun e w' => e = .returned (.bool true) ∧ Below w.heap.size w w' := by
  go_enter Tryd.func14, Tryd.ntmps14
  go_wp2_with fail
  refine (same8_nil A A' c c' _).mono ?_
  rintro e w1 ⟨rfl, rfl⟩
  go_wp2
  go_returns
  exact ⟨rfl, by go_grown⟩
set_option maxRecDepth 100000 in
set_option maxHeartbeats 4000000 in
theorem same8 (xs : List S38) (A A' : Option Addr) (c c' : Nat) (w : World) (h : k38.C w A xs.length xs) (h' : k38.C w A' xs.length xs) (hp : ∀ x ∈ xs, x.f3 = []) (hl : xs.length ≤ 1000000) :
    Calls Tryd.prog 8 #[.slice A xs.length c, .slice A' xs.length c'] w fun e w' => e = .returned (.bool true) ∧ Below w.heap.size w w' := by
  have HR := Lib.hid h
  have HR' := Lib.hid h'
  have HP := Lib.hid hp
  clear h h' hp
  go_enter Tryd.func8, Tryd.ntmps8
  go_wp2
  go_loopg [5] xs.length (fun k i wr => ∃ j : Nat, i = .int .i64 j ∧ j ≤ xs.length ∧ Aside0 (j + k = xs.length) ∧ Aside0 (Below w.heap.size w wr))
  case atStart => exact ⟨0, rfl, Nat.zero_le _, ⟨by omega⟩, ⟨Below.refl _ _⟩⟩
  case round =>
    obtain ⟨j, rfl, hj, hk, hb⟩ := hrel
    by_cases hlt : j < xs.length
    · obtain ⟨ad, A3, c3, rfl, hx0, hx1, hx2, hx3, _, _⟩ := at_T38 HR.out (j : Int) (by omega) (by omega)
      obtain ⟨ad', A3', c3', rfl, hy0, hy1, hy2, hy3, _, _⟩ := at_T38 HR'.out (j : Int) (by omega) (by omega)
      have hx := rd_T38_at xs j hlt
      have hpx := HP.out _ (List.getElem_mem hlt)
      rw [hx] at hx0 hx1 hx2 hx3 hy0 hy1 hy2 hy3
      rw [hpx] at hx3 hy3
      simp only [Int.toNat_natCast, List.length_nil] at hx0 hx1 hx2 hx3 hy0 hy1 hy2 hy3
      generalize xs[j] = x at *
      clear hx hpx
      replace hx0 := pw_cell_below hb.out hx0
      replace hx1 := pw_cell_below hb.out hx1
      replace hx2 := pw_cell_below hb.out hx2
      replace hx3 := pw_cell_below hb.out hx3
      replace hy0 := pw_cell_below hb.out hy0
      replace hy1 := pw_cell_below hb.out hy1
      replace hy2 := pw_cell_below hb.out hy2
      replace hy3 := pw_cell_below hb.out hy3
      go_wp2_with fail
      go_region_held3 (fun w' => w'.cell? (ad.add (j * 4)) = some (.int .i64 x.f0) ∧ w'.cell? ⟨(ad.add (j * 4)).block, (ad.add (j * 4)).off + 1, none⟩ = some (.int .i64 x.f1) ∧ w'.cell? ⟨(ad.add (j * 4)).block, (ad.add (j * 4)).off + 2, none⟩ = some (.string x.f2) ∧ w'.cell? ⟨(ad.add (j * 4)).block, (ad.add (j * 4)).off + 3, none⟩ = some (.slice A3 0 c3) ∧
          w'.cell? (ad'.add (j * 4)) = some (.int .i64 x.f0) ∧ w'.cell? ⟨(ad'.add (j * 4)).block, (ad'.add (j * 4)).off + 1, none⟩ = some (.int .i64 x.f1) ∧ w'.cell? ⟨(ad'.add (j * 4)).block, (ad'.add (j * 4)).off + 2, none⟩ = some (.string x.f2) ∧ w'.cell? ⟨(ad'.add (j * 4)).block, (ad'.add (j * 4)).off + 3, none⟩ = some (.slice A3' 0 c3'))
        (first | exact ⟨hx0, hx1, hx2, hx3, hy0, hy1, hy2, hy3⟩ | exact ⟨pw_cell_below hb5 hx0, pw_cell_below hb5 hx1, pw_cell_below hb5 hx2, pw_cell_below hb5 hx3, pw_cell_below hb5 hy0, pw_cell_below hb5 hy1, pw_cell_below hb5 hy2, pw_cell_below hb5 hy3⟩)
        (first
          | (with_reducible show Calls _ _ _ _ _
             refine (same14 x.f0 x.f1 x.f2 A3 A3' c3 c3' _).mono ?_
             rintro e w5 ⟨rfl, hb5'⟩
             have hb5 := Below.trans (below_drew (Below.refl wr.heap.size wr)) hb5'))
      have hmm := hk.out
      have HB5 := Lib.hid hb5
      clear hb5 hb5'
      go_wp2
      go_roundg (gk - 1)
      case measure => omega
      case rel => exact ⟨j + 1, by go_num, by omega, ⟨by omega⟩, ⟨hb.out.trans (HB5.out.mono hb.out.size)⟩⟩
    · obtain rfl : j = xs.length := by omega
      go_wp2
      go_returns
      exact ⟨rfl, hb.out⟩
end Go.Proofs.YtkefdfnlnkeigaaDoor

import Derived.Test.YtkefdfnlnkeigaaDoorE

namespace Go.Proofs.YtkefdfnlnkeigaaDoor
open Go.RowKit Go.Proofs.YtkefdfnlnkeigaaDoorW.PrintWords Go.Proofs.YtkefdfnlnkeigaaDoor.PFnRows
theorem tapf (w : World) : (Instr.typeAssert (.iface 49 (.agg #[])) 20 54 false).run Tryd.prog w = .ok (.iface 49 (.agg #[])) w := by kernel_rfl
theorem ta9f (s : ByteArray) (w : World) : (Instr.typeAssert (.iface 9 (.string s)) 20 9 false).run Tryd.prog w = .ok (.string s) w := by kernel_rfl
theorem ta100s (v : Value) (w : World) : (Instr.typeAssert (.iface 100 v) 20 22 true).run Tryd.prog w = .ok (.tuple #[.slice none 0 0, .bool false]) w := by kernel_rfl

set_option maxRecDepth 100000 in
set_option maxHeartbeats 1000000 in
theorem format63 (p : Option Addr) (es : List (ByteArray × Iv)) (w : World) (hC : Ch w p es) (hf : find es nPF = some (some (49, .agg #[]))) :
    Calls Tryd.prog 63 #[.agg #[.pointer p]] w fun e w' => e = .returned (.iface 49 (.agg #[])) ∧ Below w.heap.size w w' := by
  have k1 := tapf
  have HC := Lib.hid hC
  clear hC
  go_enter Tryd.func63, Tryd.ntmps63
  go_wp2_with fail
  refine (lookup44 p nPF es _ (HC.out.keep (by go_grown))).mono ?_
  rintro e w1 ⟨rfl, hb⟩
  have HB := Lib.hid hb
  clear hb
  simp only [hf, Option.getD_some, Option.isSome_some, encI]
  go_wp2
  go_returns
  exact ⟨rfl, Below.trans (by go_grown) (HB.out.mono (by simp))⟩

set_option maxRecDepth 100000 in
set_option maxHeartbeats 1000000 in
theorem sqlizers64 (p : Option Addr) (es : List (ByteArray × Iv)) (nm : ByteArray) (w : World) (hC : Ch w p es) (hf : find es nm = none) :
    Calls Tryd.prog 64 #[.agg #[.pointer p], .string nm] w fun e w' => e = .returned (.slice none 0 0) ∧ Below w.heap.size w w' := by
  have HC := Lib.hid hC
  clear hC
  go_enter Tryd.func64, Tryd.ntmps64
  go_wp2_with fail
  refine (lookup44 p nm es _ (HC.out.keep (by go_grown))).mono ?_
  rintro e w1 ⟨rfl, hb⟩
  have HB := Lib.hid hb
  clear hb
  simp only [hf, Option.getD_none, Option.isSome_none, encI]
  go_wp2
  go_returns
  exact ⟨rfl, Below.trans (by go_grown) (HB.out.mono (by simp))⟩

set_option maxRecDepth 100000 in
set_option maxHeartbeats 1000000 in
theorem string65 (p : Option Addr) (es : List (ByteArray × Iv)) (nm s : ByteArray) (w : World) (hC : Ch w p es) (hf : (find es nm = none ∧ s = ⟨#[]⟩) ∨ find es nm = some (strI s)) :
    Calls Tryd.prog 65 #[.agg #[.pointer p], .string nm] w fun e w' => e = .returned (.string s) ∧ Below w.heap.size w w' := by
  have k1 := ta9f
  have HC := Lib.hid hC
  clear hC
  go_enter Tryd.func65, Tryd.ntmps65
  go_wp2_with fail
  refine (lookup44 p nm es _ (HC.out.keep (by go_grown))).mono ?_
  rintro e w1 ⟨rfl, hb⟩
  have HB := Lib.hid hb
  clear hb
  rcases hf with ⟨hf, rfl⟩ | hf
  · simp only [hf, Option.getD_none, Option.isSome_none, encI]
    go_wp2
    go_returns
    exact ⟨rfl, Below.trans (by go_grown) (HB.out.mono (by simp))⟩
  · simp only [hf, Option.getD_some, Option.isSome_some, encI]
    go_wp2
    go_returns
    exact ⟨rfl, Below.trans (by go_grown) (HB.out.mono (by simp))⟩

theorem Tryd.info9 : (Tryd.prog.info? 9).map (fun i => (i.zero, i.size, i.bytes)) = some (some (.string ⟨#[]⟩), 1, 16) := by kernel_rfl
set_option maxRecDepth 100000 in
set_option maxHeartbeats 1000000 in
theorem strings66 (p : Option Addr) (es : List (ByteArray × Iv)) (nm : ByteArray) (xs : List ByteArray) (w : World) (hC : Ch w p es) (hf : Has w es nm (xs.map strI)) (hl : xs.length ≤ 1000) :
    Calls Tryd.prog 66 #[.agg #[.pointer p], .string nm] w fun e w' => ∃ v, e = .returned v ∧ Kd.string.R 9 w' w.heap.size (fun _ => True) v xs ∧ Below w.heap.size w w' := by
  have k1 := ta9f
  have k2 := ta100s
  have k3 := tal
  have HC := Lib.hid hC
  clear hC
  go_enter Tryd.func66, Tryd.ntmps66
  go_wp2_with fail
  refine (lookup44 p nm es _ (HC.out.keep (by go_grown))).mono ?_
  rintro e w1 ⟨rfl, hb⟩
  have hbw : Below w.heap.size w w1 := Below.trans (by go_grown) (hb.mono (by simp))
  have HB := Lib.hid hbw
  clear hb hbw
  rcases hf with ⟨hf, hx⟩ | ⟨lv, hf, hR⟩
  · obtain rfl : xs = [] := by simpa using hx
    simp only [hf, Option.getD_none, Option.isSome_none, encI]
    go_wp2
    go_returns
    exact ⟨_, rfl, Kd.R_nil _ _ _ _ _, HB.out⟩
  · obtain ⟨A, c, rfl, hlc, hr⟩ := hR.below HB.out
    rw [List.length_map] at hlc hr
    have HR := Lib.hid hr
    clear hr hR
    simp only [hf, Option.getD_some, Option.isSome_some, encI, List.length_map]
    go_wp2
    go_loopg [9, 31] xs.length (fun k v i wr => ∃ j : Nat, i = .int .i64 j ∧ j ≤ xs.length ∧ Aside0 (j + k = xs.length) ∧ Aside0 (Kd.string.R 9 wr w1.heap.size (fun _ => True) v (xs.take j)) ∧ Aside0 (Below w1.heap.size w1 wr))
    case atStart => exact ⟨0, rfl, Nat.zero_le _, ⟨by omega⟩, ⟨R_empty Kd.string 9 w1 _ (Nat.le_refl _)⟩, ⟨by go_grown⟩⟩
    case round =>
      obtain ⟨j, rfl, hj, hk, hR, hb⟩ := hrel
      by_cases hlt : j < xs.length
      · obtain ⟨ad, y, rfl, hy, hx0⟩ := at_kI HR.out j hlt
        obtain rfl : strI xs[j] = y := by
          rw [List.getElem?_map, List.getElem?_eq_getElem hlt] at hy
          simpa using hy
        clear hy
        have hsn : xs.take (j + 1) = xs.take j ++ [xs[j]] := List.take_succ_eq_append_getElem hlt
        generalize xs[j] = x at *
        replace hx0 := pw_cell_below hb.out hx0
        have HSN := Lib.hid hsn
        clear hsn
        simp only [encI] at hx0
        go_wp2_with (first | (at_builtin; refine Kd.R_append Kd.string (w0 := w1) w1.heap.size rfl (.tmp 35) (.tmp 38) 22 9 (.string ⟨#[]⟩) 16 rfl Tryd.underlying22 Tryd.info9 rfl Nat.one_pos (by decide) _ (xs.take j) x [.string x] (fun _ => True) (fun _ => False) rfl rfl rfl (fun _ h => h.elim) (fun _ _ => trivial) hR.out hb.out hb.out.size (by simp; omega) ?_))
        intro v1 w3 hR3 hB3 _ _
        have HR3 := Lib.hid hR3
        have HB3 := Lib.hid hB3
        clear hR3 hB3
        go_wp2
        go_roundg (gk - 1)
        case measure => have := hk.out; omega
        case rel => exact ⟨j + 1, by go_num, by omega, ⟨by have := hk.out; omega⟩, ⟨by rw [HSN.out]; exact HR3.out⟩, ⟨HB3.out⟩⟩
      · obtain rfl : j = xs.length := by omega
        have HRf := Lib.hid hR.out
        clear hR
        go_wp2
        go_returns
        refine ⟨_, rfl, ?_, HB.out.trans (hb.out.mono HB.out.size)⟩
        have := HRf.out
        rw [List.take_length] at this
        exact Kd.R_lower this HB.out.size
end Go.Proofs.YtkefdfnlnkeigaaDoor

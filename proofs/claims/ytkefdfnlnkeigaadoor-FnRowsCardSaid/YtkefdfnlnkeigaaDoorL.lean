import Derived.Test.YtkefdfnlnkeigaaDoorK
import Derived.Deep.RegionHeld3
namespace Go.Proofs.YtkefdfnlnkeigaaDoor
open Go.RowKit Go.Proofs.YtkefdfnlnkeigaaDoorW.PrintWords Go.Proofs.YtkefdfnlnkeigaaDoor.PFnRows

def colsText (cols : List ByteArray) : List UInt8 := if cols = [] then [] else [40] ++ Lib.join (cols.map (·.data.toList)) [44] ++ [41, 32]
def sqlText (tbl : ByteArray) (cols : List ByteArray) (ns : List Nat) : List UInt8 := [73, 78, 83, 69, 82, 84, 32] ++ [73, 78, 84, 79, 32] ++ tbl.data.toList ++ [32] ++ colsText cols ++ valuesText ns
theorem C_spot {w : World} {ad : Addr} {n : Nat} {ys : List ByteArray} (h : Kd.string.C w (some ad) n ys) (hn : 0 < n) : ad = ⟨ad.block, ad.off, none⟩ ∧ ad.block < w.heap.size := by
  obtain ⟨ad', x, e, _, hc⟩ := at_str h 0 hn
  injection e with e
  subst e
  have hc' : w.cell? ad = some (.string x) := hc
  refine ⟨?_, World.block_lt_of_cell? w ad hc'⟩
  obtain ⟨b, o, s⟩ := ad
  rcases s with _ | s
  · rfl
  · unfold World.cell? at hc'
    split at hc'
    · simp at hc'
    · simp at hc'
theorem joinAny70 (A : Option Addr) (n c : Nat) (ys : List ByteArray) (w : World) (h : Kd.string.C w A n ys) (hp : 0 < n) (hc : n ≤ c) (hn : n ≤ 1000000) (hlen : (Lib.join (ys.map (·.data.toList)) [44]).length ≤ 1000000000000) :
    Calls Tryd.prog 70 #[.slice A n c, .string ⟨#[44]⟩] w fun e w' => e = .returned (.string ⟨(Lib.join (ys.map (·.data.toList)) [44]).toArray⟩) ∧ Below w.heap.size w w' := by
  obtain ⟨ad, e, _⟩ := h.2.2 hp
  subst e
  obtain ⟨he, hb⟩ := C_spot h hp
  rw [he] at h ⊢
  obtain rfl := h.1
  refine Tryd.strings_Join ad.block ad.off c ys ⟨#[44]⟩ w (fun j x hj => ?_) hb (by omega) hc (by simpa using (by omega : (Lib.join (ys.map (·.data.toList)) [44]).length ≤ 140737488355328))
  have := C_cells h j x hj
  unfold Addr.add at this
  split at this
  · rename_i h0
    subst h0
    exact this
  · exact this

set_option maxRecDepth 100000 in
set_option maxHeartbeats 8000000 in
theorem toSql62 (w : World) (k : Nat) (Ao Ac Av : Option Addr) (co cc cv : Nat) (tbl : ByteArray) (cols : List ByteArray) (shs : List Sh) (rows : List (List S38)) (hd : w.heap[k]? = some (.cells #[.iface 49 (.agg #[]), .slice none 0 0, .string ⟨#[]⟩, .slice Ao 0 co, .string tbl, .slice Ac cols.length cc, .slice Av shs.length cv, .slice none 0 0, .pointer none] 122 (0, 0)))
    (hC : Kd.string.C w Ac cols.length cols) (hcc : cols.length ≤ cc) (hV : kV.C w Av shs.length shs) (hS : Sr w shs rows) (hne : rows ≠ []) (hrl : rows.length ≤ 1000) (hxl : ∀ xs ∈ rows, xs.length ≤ 1000) (ht0 : 0 < tbl.size) (htl : tbl.size ≤ 1000000) (hcl : cols.length ≤ 1000)
    (hcj : (Lib.join (cols.map (·.data.toList)) [44]).length ≤ 100000000) :
    Calls Tryd.prog 62 #[.pointer (some ⟨k, 0, none⟩)] w fun e w' => ∃ v, e = .returned (.tuple #[.string ⟨(sqlText tbl cols (rows.map (·.length))).toArray⟩, v, .nilIface]) ∧ kI.R 20 w' w.heap.size (fun _ => True) v (argsOf rows) ∧ Below w.heap.size w w' := by
  have hln := hS.len
  have hpos : 0 < shs.length := by have := List.length_pos_iff.2 hne; omega
  have HD := Lib.hid hd
  have HC := Lib.hid hC
  have HV := Lib.hid hV
  have HS := Lib.hid hS
  have HX := Lib.hid hxl
  have HLN := Lib.hid hln
  have HNE := Lib.hid hne
  have hn0 : ((shs.length : Int) == 0) = false := beq_eq_false_iff_ne.2 (by omega)
  have ht1 : ((tbl.size : Int) == 0) = false := beq_eq_false_iff_ne.2 (by omega)
  have c0 : w.cell? ⟨k, 0, none⟩ = some (.iface 49 (.agg #[])) := (blk_cell hd 0).trans rfl
  have c1 : w.cell? ⟨k, 1, none⟩ = some (.slice none 0 0) := (blk_cell hd 1).trans rfl
  have c2 : w.cell? ⟨k, 2, none⟩ = some (.string ⟨#[]⟩) := (blk_cell hd 2).trans rfl
  have c3 : w.cell? ⟨k, 3, none⟩ = some (.slice Ao 0 co) := (blk_cell hd 3).trans rfl
  have c4 : w.cell? ⟨k, 4, none⟩ = some (.string tbl) := (blk_cell hd 4).trans rfl
  have c5 : w.cell? ⟨k, 5, none⟩ = some (.slice Ac cols.length cc) := (blk_cell hd 5).trans rfl
  have c6 : w.cell? ⟨k, 6, none⟩ = some (.slice Av shs.length cv) := (blk_cell hd 6).trans rfl
  have c7 : w.cell? ⟨k, 7, none⟩ = some (.slice none 0 0) := (blk_cell hd 7).trans rfl
  have c8 : w.cell? ⟨k, 8, none⟩ = some (.pointer none) := (blk_cell hd 8).trans rfl
  have a0 : (w.alloc (.cells #[.slice none 0 0, .int .i64 0, .int .i8 0] 135)).cell? ⟨k, 0, none⟩ = some (.iface 49 (.agg #[])) := pw_cell_below ((Below.refl _ _).alloc (Nat.le_refl _) _) c0
  have a1 : (w.alloc (.cells #[.slice none 0 0, .int .i64 0, .int .i8 0] 135)).cell? ⟨k, 1, none⟩ = some (.slice none 0 0) := pw_cell_below ((Below.refl _ _).alloc (Nat.le_refl _) _) c1
  have a2 : (w.alloc (.cells #[.slice none 0 0, .int .i64 0, .int .i8 0] 135)).cell? ⟨k, 2, none⟩ = some (.string ⟨#[]⟩) := pw_cell_below ((Below.refl _ _).alloc (Nat.le_refl _) _) c2
  have a3 : (w.alloc (.cells #[.slice none 0 0, .int .i64 0, .int .i8 0] 135)).cell? ⟨k, 3, none⟩ = some (.slice Ao 0 co) := pw_cell_below ((Below.refl _ _).alloc (Nat.le_refl _) _) c3
  have a4 : (w.alloc (.cells #[.slice none 0 0, .int .i64 0, .int .i8 0] 135)).cell? ⟨k, 4, none⟩ = some (.string tbl) := pw_cell_below ((Below.refl _ _).alloc (Nat.le_refl _) _) c4
  have a5 : (w.alloc (.cells #[.slice none 0 0, .int .i64 0, .int .i8 0] 135)).cell? ⟨k, 5, none⟩ = some (.slice Ac cols.length cc) := pw_cell_below ((Below.refl _ _).alloc (Nat.le_refl _) _) c5
  have a6 : (w.alloc (.cells #[.slice none 0 0, .int .i64 0, .int .i8 0] 135)).cell? ⟨k, 6, none⟩ = some (.slice Av shs.length cv) := pw_cell_below ((Below.refl _ _).alloc (Nat.le_refl _) _) c6
  have a7 : (w.alloc (.cells #[.slice none 0 0, .int .i64 0, .int .i8 0] 135)).cell? ⟨k, 7, none⟩ = some (.slice none 0 0) := pw_cell_below ((Below.refl _ _).alloc (Nat.le_refl _) _) c7
  have a8 : (w.alloc (.cells #[.slice none 0 0, .int .i64 0, .int .i8 0] 135)).cell? ⟨k, 8, none⟩ = some (.pointer none) := pw_cell_below ((Below.refl _ _).alloc (Nat.le_refl _) _) c8
  clear hd hC hV hS hxl hln hne
  go_enter Tryd.func62, Tryd.ntmps62
  go_wp2_with fail
  refine (write69 w.heap.size (([] : List UInt8)) (⟨#[73, 78, 83, 69, 82, 84, 32]⟩) _ (Lib.fresh_isBuffer 135 5 w) (by simp <;> omega) (by decide)).mono ?_
  rintro e w1 ⟨rfl, hbuf, hb, hk⟩
  have hbx : Below w.heap.size w w1 := Below.trans ((Below.refl _ _).alloc (Nat.le_refl _) _) hb
  clear c0 c1 c2 c3 c4 c5 c6 c7 c8 a0 a1 a2 a3 a4 a5 a6 a7 a8
  have c0 : w1.cell? ⟨k, 0, none⟩ = some (.iface 49 (.agg #[])) := pw_cell_below hbx ((blk_cell HD.out 0).trans rfl)
  have c1 : w1.cell? ⟨k, 1, none⟩ = some (.slice none 0 0) := pw_cell_below hbx ((blk_cell HD.out 1).trans rfl)
  have c2 : w1.cell? ⟨k, 2, none⟩ = some (.string ⟨#[]⟩) := pw_cell_below hbx ((blk_cell HD.out 2).trans rfl)
  have c3 : w1.cell? ⟨k, 3, none⟩ = some (.slice Ao 0 co) := pw_cell_below hbx ((blk_cell HD.out 3).trans rfl)
  have c4 : w1.cell? ⟨k, 4, none⟩ = some (.string tbl) := pw_cell_below hbx ((blk_cell HD.out 4).trans rfl)
  have c5 : w1.cell? ⟨k, 5, none⟩ = some (.slice Ac cols.length cc) := pw_cell_below hbx ((blk_cell HD.out 5).trans rfl)
  have c6 : w1.cell? ⟨k, 6, none⟩ = some (.slice Av shs.length cv) := pw_cell_below hbx ((blk_cell HD.out 6).trans rfl)
  have c7 : w1.cell? ⟨k, 7, none⟩ = some (.slice none 0 0) := pw_cell_below hbx ((blk_cell HD.out 7).trans rfl)
  have c8 : w1.cell? ⟨k, 8, none⟩ = some (.pointer none) := pw_cell_below hbx ((blk_cell HD.out 8).trans rfl)
  have HB1 := Lib.hid hbuf
  have HX1 := Lib.hid hbx
  clear hbuf hbx hb hk
  go_wp2_with fail
  refine (write69 w.heap.size (([] : List UInt8) ++ (⟨#[73, 78, 83, 69, 82, 84, 32]⟩ : ByteArray).data.toList) (⟨#[73, 78, 84, 79, 32]⟩) _ HB1.out (by simp <;> omega) (by decide)).mono ?_
  rintro e w2 ⟨rfl, hbuf, hb, hk⟩
  have hbx : Below w.heap.size w w2 := Below.trans HX1.out hb
  clear c0 c1 c2 c3 c4 c5 c6 c7 c8
  have c0 : w2.cell? ⟨k, 0, none⟩ = some (.iface 49 (.agg #[])) := pw_cell_below hbx ((blk_cell HD.out 0).trans rfl)
  have c1 : w2.cell? ⟨k, 1, none⟩ = some (.slice none 0 0) := pw_cell_below hbx ((blk_cell HD.out 1).trans rfl)
  have c2 : w2.cell? ⟨k, 2, none⟩ = some (.string ⟨#[]⟩) := pw_cell_below hbx ((blk_cell HD.out 2).trans rfl)
  have c3 : w2.cell? ⟨k, 3, none⟩ = some (.slice Ao 0 co) := pw_cell_below hbx ((blk_cell HD.out 3).trans rfl)
  have c4 : w2.cell? ⟨k, 4, none⟩ = some (.string tbl) := pw_cell_below hbx ((blk_cell HD.out 4).trans rfl)
  have c5 : w2.cell? ⟨k, 5, none⟩ = some (.slice Ac cols.length cc) := pw_cell_below hbx ((blk_cell HD.out 5).trans rfl)
  have c6 : w2.cell? ⟨k, 6, none⟩ = some (.slice Av shs.length cv) := pw_cell_below hbx ((blk_cell HD.out 6).trans rfl)
  have c7 : w2.cell? ⟨k, 7, none⟩ = some (.slice none 0 0) := pw_cell_below hbx ((blk_cell HD.out 7).trans rfl)
  have c8 : w2.cell? ⟨k, 8, none⟩ = some (.pointer none) := pw_cell_below hbx ((blk_cell HD.out 8).trans rfl)
  have HB2 := Lib.hid hbuf
  have HX2 := Lib.hid hbx
  clear hbuf hbx hb hk
  go_wp2_with fail
  refine (write69 w.heap.size (([] : List UInt8) ++ (⟨#[73, 78, 83, 69, 82, 84, 32]⟩ : ByteArray).data.toList ++ (⟨#[73, 78, 84, 79, 32]⟩ : ByteArray).data.toList) (tbl) _ HB2.out (by simp <;> omega) (by omega)).mono ?_
  rintro e w3 ⟨rfl, hbuf, hb, hk⟩
  have hbx : Below w.heap.size w w3 := Below.trans HX2.out hb
  clear c0 c1 c2 c3 c4 c5 c6 c7 c8
  have c0 : w3.cell? ⟨k, 0, none⟩ = some (.iface 49 (.agg #[])) := pw_cell_below hbx ((blk_cell HD.out 0).trans rfl)
  have c1 : w3.cell? ⟨k, 1, none⟩ = some (.slice none 0 0) := pw_cell_below hbx ((blk_cell HD.out 1).trans rfl)
  have c2 : w3.cell? ⟨k, 2, none⟩ = some (.string ⟨#[]⟩) := pw_cell_below hbx ((blk_cell HD.out 2).trans rfl)
  have c3 : w3.cell? ⟨k, 3, none⟩ = some (.slice Ao 0 co) := pw_cell_below hbx ((blk_cell HD.out 3).trans rfl)
  have c4 : w3.cell? ⟨k, 4, none⟩ = some (.string tbl) := pw_cell_below hbx ((blk_cell HD.out 4).trans rfl)
  have c5 : w3.cell? ⟨k, 5, none⟩ = some (.slice Ac cols.length cc) := pw_cell_below hbx ((blk_cell HD.out 5).trans rfl)
  have c6 : w3.cell? ⟨k, 6, none⟩ = some (.slice Av shs.length cv) := pw_cell_below hbx ((blk_cell HD.out 6).trans rfl)
  have c7 : w3.cell? ⟨k, 7, none⟩ = some (.slice none 0 0) := pw_cell_below hbx ((blk_cell HD.out 7).trans rfl)
  have c8 : w3.cell? ⟨k, 8, none⟩ = some (.pointer none) := pw_cell_below hbx ((blk_cell HD.out 8).trans rfl)
  have HB3 := Lib.hid hbuf
  have HX3 := Lib.hid hbx
  clear hbuf hbx hb hk
  go_wp2_with fail
  refine (write69 w.heap.size (([] : List UInt8) ++ (⟨#[73, 78, 83, 69, 82, 84, 32]⟩ : ByteArray).data.toList ++ (⟨#[73, 78, 84, 79, 32]⟩ : ByteArray).data.toList ++ tbl.data.toList) (⟨#[32]⟩) _ HB3.out (by simp <;> omega) (by decide)).mono ?_
  rintro e w4 ⟨rfl, hbuf, hb, hk⟩
  have hbx : Below w.heap.size w w4 := Below.trans HX3.out hb
  clear c0 c1 c2 c3 c4 c5 c6 c7 c8
  have c0 : w4.cell? ⟨k, 0, none⟩ = some (.iface 49 (.agg #[])) := pw_cell_below hbx ((blk_cell HD.out 0).trans rfl)
  have c1 : w4.cell? ⟨k, 1, none⟩ = some (.slice none 0 0) := pw_cell_below hbx ((blk_cell HD.out 1).trans rfl)
  have c2 : w4.cell? ⟨k, 2, none⟩ = some (.string ⟨#[]⟩) := pw_cell_below hbx ((blk_cell HD.out 2).trans rfl)
  have c3 : w4.cell? ⟨k, 3, none⟩ = some (.slice Ao 0 co) := pw_cell_below hbx ((blk_cell HD.out 3).trans rfl)
  have c4 : w4.cell? ⟨k, 4, none⟩ = some (.string tbl) := pw_cell_below hbx ((blk_cell HD.out 4).trans rfl)
  have c5 : w4.cell? ⟨k, 5, none⟩ = some (.slice Ac cols.length cc) := pw_cell_below hbx ((blk_cell HD.out 5).trans rfl)
  have c6 : w4.cell? ⟨k, 6, none⟩ = some (.slice Av shs.length cv) := pw_cell_below hbx ((blk_cell HD.out 6).trans rfl)
  have c7 : w4.cell? ⟨k, 7, none⟩ = some (.slice none 0 0) := pw_cell_below hbx ((blk_cell HD.out 7).trans rfl)
  have c8 : w4.cell? ⟨k, 8, none⟩ = some (.pointer none) := pw_cell_below hbx ((blk_cell HD.out 8).trans rfl)
  have HB4 := Lib.hid hbuf
  have HX4 := Lib.hid hbx
  clear hbuf hbx hb hk
  by_cases hz : 0 < cols.length
  · have hci : (0 : Int) < (cols.length : Int) := by omega
    go_wp2_with fail
    refine (write69 w.heap.size (([] : List UInt8) ++ (⟨#[73, 78, 83, 69, 82, 84, 32]⟩ : ByteArray).data.toList ++ (⟨#[73, 78, 84, 79, 32]⟩ : ByteArray).data.toList ++ tbl.data.toList ++ (⟨#[32]⟩ : ByteArray).data.toList) (⟨#[40]⟩) _ HB4.out (by simp <;> omega) (by decide)).mono ?_
    rintro e w5 ⟨rfl, hbuf, hb, hk⟩
    have hbx : Below w.heap.size w w5 := Below.trans HX4.out hb
    clear c0 c1 c2 c3 c4 c5 c6 c7 c8
    have c0 : w5.cell? ⟨k, 0, none⟩ = some (.iface 49 (.agg #[])) := pw_cell_below hbx ((blk_cell HD.out 0).trans rfl)
    have c1 : w5.cell? ⟨k, 1, none⟩ = some (.slice none 0 0) := pw_cell_below hbx ((blk_cell HD.out 1).trans rfl)
    have c2 : w5.cell? ⟨k, 2, none⟩ = some (.string ⟨#[]⟩) := pw_cell_below hbx ((blk_cell HD.out 2).trans rfl)
    have c3 : w5.cell? ⟨k, 3, none⟩ = some (.slice Ao 0 co) := pw_cell_below hbx ((blk_cell HD.out 3).trans rfl)
    have c4 : w5.cell? ⟨k, 4, none⟩ = some (.string tbl) := pw_cell_below hbx ((blk_cell HD.out 4).trans rfl)
    have c5 : w5.cell? ⟨k, 5, none⟩ = some (.slice Ac cols.length cc) := pw_cell_below hbx ((blk_cell HD.out 5).trans rfl)
    have c6 : w5.cell? ⟨k, 6, none⟩ = some (.slice Av shs.length cv) := pw_cell_below hbx ((blk_cell HD.out 6).trans rfl)
    have c7 : w5.cell? ⟨k, 7, none⟩ = some (.slice none 0 0) := pw_cell_below hbx ((blk_cell HD.out 7).trans rfl)
    have c8 : w5.cell? ⟨k, 8, none⟩ = some (.pointer none) := pw_cell_below hbx ((blk_cell HD.out 8).trans rfl)
    have HB5 := Lib.hid hbuf
    have HX5 := Lib.hid hbx
    clear hbuf hbx hb hk
    go_wp2_with fail
    refine (joinAny70 Ac cols.length cc cols _ (Kd.C_below HC.out HX5.out) hz hcc (by omega) (by omega)).mono ?_
    rintro e w6 ⟨rfl, hb6⟩
    have hbx6 := HX5.out.trans (hb6.mono HX5.out.size)
    have hbuf6 := HB5.out.kept (kept_below hb6 0) (by decide) (by decide)
    generalize hJS : (⟨(Lib.join (cols.map (·.data.toList)) [44]).toArray⟩ : ByteArray) = sv
    have hsl : sv.data.toList = Lib.join (cols.map (·.data.toList)) [44] := by rw [← hJS]
    have hss : sv.size ≤ 100000000 := by rw [← hJS]; show (Array.size _) ≤ _; simp only [List.size_toArray]; exact hcj
    clear c0 c1 c2 c3 c4 c5 c6 c7 c8
    have c0 : w6.cell? ⟨k, 0, none⟩ = some (.iface 49 (.agg #[])) := pw_cell_below hbx6 ((blk_cell HD.out 0).trans rfl)
    have c1 : w6.cell? ⟨k, 1, none⟩ = some (.slice none 0 0) := pw_cell_below hbx6 ((blk_cell HD.out 1).trans rfl)
    have c2 : w6.cell? ⟨k, 2, none⟩ = some (.string ⟨#[]⟩) := pw_cell_below hbx6 ((blk_cell HD.out 2).trans rfl)
    have c3 : w6.cell? ⟨k, 3, none⟩ = some (.slice Ao 0 co) := pw_cell_below hbx6 ((blk_cell HD.out 3).trans rfl)
    have c4 : w6.cell? ⟨k, 4, none⟩ = some (.string tbl) := pw_cell_below hbx6 ((blk_cell HD.out 4).trans rfl)
    have c5 : w6.cell? ⟨k, 5, none⟩ = some (.slice Ac cols.length cc) := pw_cell_below hbx6 ((blk_cell HD.out 5).trans rfl)
    have c6 : w6.cell? ⟨k, 6, none⟩ = some (.slice Av shs.length cv) := pw_cell_below hbx6 ((blk_cell HD.out 6).trans rfl)
    have c7 : w6.cell? ⟨k, 7, none⟩ = some (.slice none 0 0) := pw_cell_below hbx6 ((blk_cell HD.out 7).trans rfl)
    have c8 : w6.cell? ⟨k, 8, none⟩ = some (.pointer none) := pw_cell_below hbx6 ((blk_cell HD.out 8).trans rfl)
    have HSL := Lib.hid hsl
    have HB6 := Lib.hid hbuf6
    have HX6 := Lib.hid hbx6
    clear hJS hsl hbuf6 hbx6 hb6
    go_wp2_with fail
    refine (write69 w.heap.size (([] : List UInt8) ++ (⟨#[73, 78, 83, 69, 82, 84, 32]⟩ : ByteArray).data.toList ++ (⟨#[73, 78, 84, 79, 32]⟩ : ByteArray).data.toList ++ tbl.data.toList ++ (⟨#[32]⟩ : ByteArray).data.toList ++ (⟨#[40]⟩ : ByteArray).data.toList) (sv) _ HB6.out (by simp <;> omega) (by omega)).mono ?_
    rintro e w7 ⟨rfl, hbuf, hb, hk⟩
    have hbx : Below w.heap.size w w7 := Below.trans HX6.out hb
    clear c0 c1 c2 c3 c4 c5 c6 c7 c8
    have c0 : w7.cell? ⟨k, 0, none⟩ = some (.iface 49 (.agg #[])) := pw_cell_below hbx ((blk_cell HD.out 0).trans rfl)
    have c1 : w7.cell? ⟨k, 1, none⟩ = some (.slice none 0 0) := pw_cell_below hbx ((blk_cell HD.out 1).trans rfl)
    have c2 : w7.cell? ⟨k, 2, none⟩ = some (.string ⟨#[]⟩) := pw_cell_below hbx ((blk_cell HD.out 2).trans rfl)
    have c3 : w7.cell? ⟨k, 3, none⟩ = some (.slice Ao 0 co) := pw_cell_below hbx ((blk_cell HD.out 3).trans rfl)
    have c4 : w7.cell? ⟨k, 4, none⟩ = some (.string tbl) := pw_cell_below hbx ((blk_cell HD.out 4).trans rfl)
    have c5 : w7.cell? ⟨k, 5, none⟩ = some (.slice Ac cols.length cc) := pw_cell_below hbx ((blk_cell HD.out 5).trans rfl)
    have c6 : w7.cell? ⟨k, 6, none⟩ = some (.slice Av shs.length cv) := pw_cell_below hbx ((blk_cell HD.out 6).trans rfl)
    have c7 : w7.cell? ⟨k, 7, none⟩ = some (.slice none 0 0) := pw_cell_below hbx ((blk_cell HD.out 7).trans rfl)
    have c8 : w7.cell? ⟨k, 8, none⟩ = some (.pointer none) := pw_cell_below hbx ((blk_cell HD.out 8).trans rfl)
    have HB7 := Lib.hid hbuf
    have HX7 := Lib.hid hbx
    clear hbuf hbx hb hk
    go_wp2_with fail
    refine (write69 w.heap.size (([] : List UInt8) ++ (⟨#[73, 78, 83, 69, 82, 84, 32]⟩ : ByteArray).data.toList ++ (⟨#[73, 78, 84, 79, 32]⟩ : ByteArray).data.toList ++ tbl.data.toList ++ (⟨#[32]⟩ : ByteArray).data.toList ++ (⟨#[40]⟩ : ByteArray).data.toList ++ sv.data.toList) (⟨#[41, 32]⟩) _ HB7.out (by simp <;> omega) (by decide)).mono ?_
    rintro e w8 ⟨rfl, hbuf, hb, hk⟩
    have hbx : Below w.heap.size w w8 := Below.trans HX7.out hb
    clear c0 c1 c2 c3 c4 c5 c6 c7 c8
    have c0 : w8.cell? ⟨k, 0, none⟩ = some (.iface 49 (.agg #[])) := pw_cell_below hbx ((blk_cell HD.out 0).trans rfl)
    have c1 : w8.cell? ⟨k, 1, none⟩ = some (.slice none 0 0) := pw_cell_below hbx ((blk_cell HD.out 1).trans rfl)
    have c2 : w8.cell? ⟨k, 2, none⟩ = some (.string ⟨#[]⟩) := pw_cell_below hbx ((blk_cell HD.out 2).trans rfl)
    have c3 : w8.cell? ⟨k, 3, none⟩ = some (.slice Ao 0 co) := pw_cell_below hbx ((blk_cell HD.out 3).trans rfl)
    have c4 : w8.cell? ⟨k, 4, none⟩ = some (.string tbl) := pw_cell_below hbx ((blk_cell HD.out 4).trans rfl)
    have c5 : w8.cell? ⟨k, 5, none⟩ = some (.slice Ac cols.length cc) := pw_cell_below hbx ((blk_cell HD.out 5).trans rfl)
    have c6 : w8.cell? ⟨k, 6, none⟩ = some (.slice Av shs.length cv) := pw_cell_below hbx ((blk_cell HD.out 6).trans rfl)
    have c7 : w8.cell? ⟨k, 7, none⟩ = some (.slice none 0 0) := pw_cell_below hbx ((blk_cell HD.out 7).trans rfl)
    have c8 : w8.cell? ⟨k, 8, none⟩ = some (.pointer none) := pw_cell_below hbx ((blk_cell HD.out 8).trans rfl)
    have HB8 := Lib.hid hbuf
    have HX8 := Lib.hid hbx
    clear hbuf hbx hb hk
    go_wp2_with fail
    refine (values72 w _ k _ _ _ _ _ _ _ _ Av cv shs rows (([] : List UInt8) ++ (⟨#[73, 78, 83, 69, 82, 84, 32]⟩ : ByteArray).data.toList ++ (⟨#[73, 78, 84, 79, 32]⟩ : ByteArray).data.toList ++ tbl.data.toList ++ (⟨#[32]⟩ : ByteArray).data.toList ++ (⟨#[40]⟩ : ByteArray).data.toList ++ sv.data.toList ++ (⟨#[41, 32]⟩ : ByteArray).data.toList) HX8.out HB8.out HD.out HV.out HS.out HNE.out hrl HX.out (by simp <;> omega)).mono ?_
    rintro e w20 ⟨v, rfl, hR, hbuf, hbx⟩
    clear c0 c1 c2 c3 c4 c5 c6 c7 c8
    have c0 : w20.cell? ⟨k, 0, none⟩ = some (.iface 49 (.agg #[])) := pw_cell_below hbx ((blk_cell HD.out 0).trans rfl)
    have c1 : w20.cell? ⟨k, 1, none⟩ = some (.slice none 0 0) := pw_cell_below hbx ((blk_cell HD.out 1).trans rfl)
    have c2 : w20.cell? ⟨k, 2, none⟩ = some (.string ⟨#[]⟩) := pw_cell_below hbx ((blk_cell HD.out 2).trans rfl)
    have c3 : w20.cell? ⟨k, 3, none⟩ = some (.slice Ao 0 co) := pw_cell_below hbx ((blk_cell HD.out 3).trans rfl)
    have c4 : w20.cell? ⟨k, 4, none⟩ = some (.string tbl) := pw_cell_below hbx ((blk_cell HD.out 4).trans rfl)
    have c5 : w20.cell? ⟨k, 5, none⟩ = some (.slice Ac cols.length cc) := pw_cell_below hbx ((blk_cell HD.out 5).trans rfl)
    have c6 : w20.cell? ⟨k, 6, none⟩ = some (.slice Av shs.length cv) := pw_cell_below hbx ((blk_cell HD.out 6).trans rfl)
    have c7 : w20.cell? ⟨k, 7, none⟩ = some (.slice none 0 0) := pw_cell_below hbx ((blk_cell HD.out 7).trans rfl)
    have c8 : w20.cell? ⟨k, 8, none⟩ = some (.pointer none) := pw_cell_below hbx ((blk_cell HD.out 8).trans rfl)
    have HB20 := Lib.hid hbuf
    have HX20 := Lib.hid hbx
    have HR20 := Lib.hid hR
    clear hbuf hbx hR
    go_wp2_with fail
    go_region_held3 (fun w' => w'.cell? ⟨k, 0, none⟩ = some (.iface 49 (.agg #[])))
      (first | with_reducible exact c0 | with_reducible exact (pw_cell_below (below_drew (Below.refl _ _)) c0) | with_reducible exact hc21 | with_reducible exact hc22 | go_keep)
      (first
        | (with_reducible show Calls _ _ _ _ _
           fail_if_success (have hgate := hc21)
           refine (Tryd.Buffer_String w.heap.size w.heap.size _ _ (Lib.IsBuffer.drew HB20.out)).mono ?_
           rintro e w21 ⟨rfl, n21, rfl⟩
           have hb21 : Below w20.heap.size w20 (w20.drew.drewN n21) := pw_below_drewN (below_drew (Below.refl _ _)) _
           generalize w20.drew.drewN n21 = w21 at *
           have hc21 := pw_cell_below hb21 c0)
        | (with_reducible show Calls _ _ _ _ _
           refine (replace88 _ _).mono ?_
           rintro e w22 ⟨rfl, hb22⟩
           have hc22 := pw_cell_below hb22 hc21))
    have hb2 := hb21.trans (hb22.mono hb21.size)
    have HB22 := Lib.hid hb2
    clear hb21 hb22 hb2
    go_wp2
    go_returns
    refine ⟨v, ?_, Kd.R_below HR20.out HB22.out, Below.trans' HX20.out HB22.out⟩
    have hcn : cols ≠ [] := by rintro rfl; simp at hz
    unfold sqlText colsText
    rw [if_neg hcn, HSL.out]
    simp
  · obtain rfl : cols = [] := List.eq_nil_of_length_eq_zero (by omega)
    go_wp2_with fail
    refine (values72 w _ k _ _ _ _ _ _ _ _ Av cv shs rows (([] : List UInt8) ++ (⟨#[73, 78, 83, 69, 82, 84, 32]⟩ : ByteArray).data.toList ++ (⟨#[73, 78, 84, 79, 32]⟩ : ByteArray).data.toList ++ tbl.data.toList ++ (⟨#[32]⟩ : ByteArray).data.toList) HX4.out HB4.out HD.out HV.out HS.out HNE.out hrl HX.out (by simp <;> omega)).mono ?_
    rintro e w20 ⟨v, rfl, hR, hbuf, hbx⟩
    clear c0 c1 c2 c3 c4 c5 c6 c7 c8
    have c0 : w20.cell? ⟨k, 0, none⟩ = some (.iface 49 (.agg #[])) := pw_cell_below hbx ((blk_cell HD.out 0).trans rfl)
    have c1 : w20.cell? ⟨k, 1, none⟩ = some (.slice none 0 0) := pw_cell_below hbx ((blk_cell HD.out 1).trans rfl)
    have c2 : w20.cell? ⟨k, 2, none⟩ = some (.string ⟨#[]⟩) := pw_cell_below hbx ((blk_cell HD.out 2).trans rfl)
    have c3 : w20.cell? ⟨k, 3, none⟩ = some (.slice Ao 0 co) := pw_cell_below hbx ((blk_cell HD.out 3).trans rfl)
    have c4 : w20.cell? ⟨k, 4, none⟩ = some (.string tbl) := pw_cell_below hbx ((blk_cell HD.out 4).trans rfl)
    have c5 : w20.cell? ⟨k, 5, none⟩ = some (.slice Ac 0 cc) := pw_cell_below hbx ((blk_cell HD.out 5).trans rfl)
    have c6 : w20.cell? ⟨k, 6, none⟩ = some (.slice Av shs.length cv) := pw_cell_below hbx ((blk_cell HD.out 6).trans rfl)
    have c7 : w20.cell? ⟨k, 7, none⟩ = some (.slice none 0 0) := pw_cell_below hbx ((blk_cell HD.out 7).trans rfl)
    have c8 : w20.cell? ⟨k, 8, none⟩ = some (.pointer none) := pw_cell_below hbx ((blk_cell HD.out 8).trans rfl)
    have HB20 := Lib.hid hbuf
    have HX20 := Lib.hid hbx
    have HR20 := Lib.hid hR
    clear hbuf hbx hR
    go_wp2_with fail
    go_region_held3 (fun w' => w'.cell? ⟨k, 0, none⟩ = some (.iface 49 (.agg #[])))
      (first | with_reducible exact c0 | with_reducible exact (pw_cell_below (below_drew (Below.refl _ _)) c0) | with_reducible exact hc21 | with_reducible exact hc22 | go_keep)
      (first
        | (with_reducible show Calls _ _ _ _ _
           fail_if_success (have hgate := hc21)
           refine (Tryd.Buffer_String w.heap.size w.heap.size _ _ (Lib.IsBuffer.drew HB20.out)).mono ?_
           rintro e w21 ⟨rfl, n21, rfl⟩
           have hb21 : Below w20.heap.size w20 (w20.drew.drewN n21) := pw_below_drewN (below_drew (Below.refl _ _)) _
           generalize w20.drew.drewN n21 = w21 at *
           have hc21 := pw_cell_below hb21 c0)
        | (with_reducible show Calls _ _ _ _ _
           refine (replace88 _ _).mono ?_
           rintro e w22 ⟨rfl, hb22⟩
           have hc22 := pw_cell_below hb22 hc21))
    have hb2 := hb21.trans (hb22.mono hb21.size)
    have HB22 := Lib.hid hb2
    clear hb21 hb22 hb2
    go_wp2
    go_returns
    refine ⟨v, ?_, Kd.R_below HR20.out HB22.out, Below.trans' HX20.out HB22.out⟩
    unfold sqlText colsText
    rw [if_pos rfl]
    simp
end Go.Proofs.YtkefdfnlnkeigaaDoor

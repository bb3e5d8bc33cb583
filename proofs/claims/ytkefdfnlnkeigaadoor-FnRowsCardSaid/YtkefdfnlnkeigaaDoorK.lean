import Derived.Test.YtkefdfnlnkeigaaDoorJ
import Derived.Stop.Asserts
namespace Go.Proofs.YtkefdfnlnkeigaaDoor
open Go.RowKit Go.Proofs.YtkefdfnlnkeigaaDoorW.PrintWords Go.Proofs.YtkefdfnlnkeigaaDoor.PFnRows

theorem make_strings (W : World) (n : Nat) (hn : n ≤ 1000000) (base : Nat) (hb : base ≤ W.heap.size) : ∃ w1, (Instr.makeSlice 22 (.int .i64 n) (.int .i64 n)).run Tryd.prog W = .ok (.slice (some ⟨W.heap.size, 0, none⟩) n n) w1 ∧
    Kd.string.R 9 w1 base (fun _ => True) (.slice (some ⟨W.heap.size, 0, none⟩) n n) (List.replicate n ⟨#[]⟩) ∧ Below W.heap.size W w1 ∧ W.heap.size < w1.heap.size := by
  obtain ⟨i0, hi, hzz⟩ := Option.map_eq_some_iff.1 Tryd.info9
  simp only [Prod.mk.injEq] at hzz
  obtain ⟨hz0, hz1, hz2⟩ := hzz
  have hr := run_make (P := Tryd.prog) W 22 9 i0 _ Tryd.underlying22 hi hz0 .i64 .i64 (n : Int) (n : Int) (by omega) (by omega) (by rw [hz2]; omega) (by omega)
  simp only [Int.toNat_natCast] at hr
  rw [hz1] at hr
  refine ⟨_, hr, ⟨fun _ _ => trivial, _, ?_, Kd.reps_made (z0 := (⟨#[]⟩ : ByteArray)) (z := .string ⟨#[]⟩) rfl (by decide) rfl n⟩, (Below.refl _ _).alloc (Nat.le_refl _) _, by simp⟩
  have := World.ownsRow_lit (base := base) (e := 9) (size := 1) W (madeCells (Value.string ⟨#[]⟩).cells (n * 1)) n hb (by simp [maxLen]; omega) (by simp [size_madeCells])
  rw [List.length_replicate]
  exact this
def argsOf (rows : List (List S38)) : List Iv := rows.flatten.map anyOf
theorem argsOf_snoc (rows : List (List S38)) (r : Nat) (xs : List S38) (h : rows[r]? = some xs) : argsOf (rows.take (r + 1)) = argsOf (rows.take r) ++ xs.map anyOf := by
  obtain ⟨hl, rfl⟩ := List.getElem?_eq_some_iff.1 h
  unfold argsOf
  rw [List.take_succ_eq_append_getElem hl, List.flatten_append, List.map_append]
  simp
def rowText (n : Nat) : List UInt8 := [40] ++ Lib.join (List.replicate n [63]) [44] ++ [41]
def valuesText (ns : List Nat) : List UInt8 := [86, 65, 76, 85, 69, 83, 32] ++ Lib.join (ns.map rowText) [44]

def rowBA (xs : List S38) : ByteArray := ⟨#[40]⟩ ++ ⟨(Lib.join (List.replicate xs.length [63]) [44]).toArray⟩ ++ ⟨#[41]⟩
theorem rowBA_list (xs : List S38) : (rowBA xs).data.toList = rowText xs.length := by
  unfold rowBA rowText
  simp [ByteArray.data_append]
theorem taS2 (v : Value) (w : World) : (Instr.typeAssert (.iface 2 v) 20 41 true).run Tryd.prog w = .ok (.tuple #[.nilIface, .bool false]) w := run_typeAssert_lacksB Tryd.underlying41 (by kernel_rfl) (by kernel_rfl) v 20 w
theorem taS9 (v : Value) (w : World) : (Instr.typeAssert (.iface 9 v) 20 41 true).run Tryd.prog w = .ok (.tuple #[.nilIface, .bool false]) w := run_typeAssert_lacksB Tryd.underlying41 (by kernel_rfl) (by kernel_rfl) v 20 w
theorem taS4 (v : Value) (w : World) : (Instr.typeAssert (.iface 4 v) 20 41 true).run Tryd.prog w = .ok (.tuple #[.nilIface, .bool false]) w := run_typeAssert_lacksB Tryd.underlying41 (by kernel_rfl) (by kernel_rfl) v 20 w
theorem taSn (w : World) : (Instr.typeAssert .nilIface 20 41 true).run Tryd.prog w = .ok (.tuple #[.nilIface, .bool false]) w := by kernel_rfl
theorem taS (x : S38) (w : World) : (Instr.typeAssert (encI (anyOf x)) 20 41 true).run Tryd.prog w = .ok (.tuple #[.nilIface, .bool false]) w := by
  unfold anyOf
  split
  · exact taS2 _ w
  split
  · exact taS9 _ w
  split
  · exact taS4 _ w
  split
  · exact taS4 _ w
  · exact taSn w
theorem Sr.get {w : World} : ∀ {shs : List Sh} {rows : List (List S38)}, Sr w shs rows → ∀ (j : Nat) (s : Sh), shs[j]? = some s → ∃ A c xs, s = (A, xs.length, c) ∧ rows[j]? = some xs ∧ kI.C w A xs.length (xs.map anyOf)
  | _, _, .nil => fun j s h => by simp at h
  | _, _, .cons (A := A) (c := c) (xs := xs) h t => fun j s hs => by
    rcases j with _ | j
    · simp only [List.getElem?_cons_zero, Option.some.injEq] at hs
      exact ⟨A, c, xs, hs.symm, rfl, h⟩
    · simp only [List.getElem?_cons_succ] at hs ⊢
      exact t.get j s hs
theorem kept_new {w w' : World} {t : Nat} (h : Lib.OthersKept t none w w') {g : Nat} (hg : w.heap.size ≤ g) (i : Nat) (u : Value) : Lib.OthersKept t none w (w'.setCell ⟨g, i, none⟩ u) := fun k o hk hb ho =>
  (Below.heap_setCell _ _ _ _ (by have := blk_lt hk; simp only; omega)).trans (h k o hk hb ho)
theorem flat_le {α : Type} : ∀ (rows : List (List α)), (∀ xs ∈ rows, xs.length ≤ 1000) → rows.flatten.length ≤ 1000 * rows.length
  | [], _ => by simp
  | xs :: rows, h => by
    have h1 := h xs (by simp)
    have h2 := flat_le rows (fun ys hy => h ys (by simp [hy]))
    simp only [List.flatten_cons, List.length_append, List.length_cons]
    omega
theorem flat_take {α : Type} (rows : List (List α)) (h : ∀ xs ∈ rows, xs.length ≤ 1000) (hl : rows.length ≤ 1000) (r : Nat) : (rows.take r).flatten.length ≤ 1000000 := by
  have h1 := flat_le (rows.take r) (fun xs hx => h xs (List.mem_of_mem_take hx))
  have h2 : (rows.take r).length ≤ rows.length := by rw [List.length_take]; omega
  omega
theorem set_rep {α : Type} (a b : α) (v m : Nat) (h : v < m) : (List.replicate v a ++ List.replicate (m - v) b).set v a = List.replicate (v + 1) a ++ List.replicate (m - (v + 1)) b := by
  rw [List.set_append_right _ _ (by simp), List.length_replicate, Nat.sub_self, show m - v = (m - (v + 1)) + 1 from by omega, List.replicate_succ, List.set_cons_zero, List.replicate_succ', List.append_assoc]
  rfl
theorem C_cells {w : World} {ad : Addr} {n : Nat} {ys : List ByteArray} (h : Kd.string.C w (some ad) n ys) (j : Nat) (x : ByteArray) (hj : ys[j]? = some x) : w.cell? (ad.add j) = some (.string x) := by
  obtain ⟨ad', x', e, hx, hc⟩ := at_str h j (by have := h.1; have := (List.getElem?_eq_some_iff.1 hj).1; omega)
  injection e with e
  subst e
  rw [hx] at hj
  injection hj with hj
  exact hj ▸ hc
theorem join70 (g n c : Nat) (ys : List ByteArray) (w : World) (h : Kd.string.C w (some ⟨g, 0, none⟩) n ys) (hg : g < w.heap.size) (hc : n ≤ c) (hn : n ≤ 1000000) (hlen : (Lib.join (ys.map (·.data.toList)) [44]).length ≤ 1000000000000) :
    Calls Tryd.prog 70 #[.slice (some ⟨g, 0, none⟩) n c, .string ⟨#[44]⟩] w fun e w' => e = .returned (.string ⟨(Lib.join (ys.map (·.data.toList)) [44]).toArray⟩) ∧ Below w.heap.size w w' := by
  obtain rfl := h.1
  exact Tryd.strings_Join g 0 c ys ⟨#[44]⟩ w (fun j x hj => by have := C_cells h j x hj; rwa [add_plain, ← Nat.zero_add j] at this) hg (by omega) hc (by simpa using (by omega : (Lib.join (ys.map (·.data.toList)) [44]).length ≤ 140737488355328))
theorem join_le (n : Nat) : (Lib.join (List.replicate n [63]) [44]).length ≤ 2 * n := by
  rcases n with _ | n
  · simp [Lib.join_nil]
  · rw [List.replicate_succ, Lib.join_length]
    simp [Lib.lens]
    omega
theorem lens_le : ∀ (l : List (List UInt8)) (m : Nat), (∀ x ∈ l, x.length ≤ m) → Lib.lens l ≤ m * l.length
  | [], m, _ => by simp [Lib.lens]
  | x :: l, m, h => by
    have h1 := h x (by simp)
    have h2 := lens_le l m (fun y hy => h y (by simp [hy]))
    unfold Lib.lens at h2 ⊢
    simp only [List.map_cons, List.sum_cons, List.length_cons, Nat.mul_add, Nat.mul_one]
    omega
theorem join_le2 (l : List (List UInt8)) (m : Nat) (h : ∀ x ∈ l, x.length ≤ m) : (Lib.join l [44]).length ≤ (m + 1) * l.length := by
  rcases l with _ | ⟨x, l⟩
  · simp [Lib.join_nil]
  · have := lens_le (x :: l) m h
    rw [Lib.join_length]
    simp only [List.length_cons, List.length_nil, Nat.add_mul, Nat.mul_add, Nat.one_mul, Nat.mul_one, Nat.zero_add] at this ⊢
    omega
theorem rowText_le (n : Nat) (h : n ≤ 1000) : (rowText n).length ≤ 2002 := by
  have := join_le n
  unfold rowText
  simp only [List.length_append, List.length_cons, List.length_nil]
  omega
theorem set_app {α : Type} (l : List α) (a b : α) (r n : Nat) (hl : l.length = r) (h : r < n) : (l ++ List.replicate (n - r) b).set r a = l ++ [a] ++ List.replicate (n - (r + 1)) b := by
  subst hl
  rw [List.set_append_right _ _ (Nat.le_refl _), Nat.sub_self, show n - l.length = (n - (l.length + 1)) + 1 from by omega, List.replicate_succ, List.set_cons_zero, List.append_assoc]
  rfl
theorem kept_trans {w w' w'' : World} {t : Nat} (h : Lib.OthersKept t none w w') (h' : Lib.OthersKept t none w' w'') : Lib.OthersKept t none w w'' := Lib.OthersKept.trans h h'

set_option maxRecDepth 100000 in
set_option maxHeartbeats 8000000 in
theorem values72 (wd w : World) (k : Nat) (x0 x1 x2 x3 x4 x5 x7 x8 : Value) (Av : Option Addr) (cv : Nat) (shs : List Sh) (rows : List (List S38)) (T : List UInt8) (hbw : Below wd.heap.size wd w) (hbuf : Buf wd.heap.size T w)
    (hd : wd.heap[k]? = some (.cells #[x0, x1, x2, x3, x4, x5, .slice Av shs.length cv, x7, x8] 122 (0, 0))) (hV : kV.C wd Av shs.length shs) (hS : Sr wd shs rows) (hne : rows ≠ []) (hrl : rows.length ≤ 1000) (hxl : ∀ xs ∈ rows, xs.length ≤ 1000) (hT : T.length ≤ 1000000000) :
    Calls Tryd.prog 72 #[.pointer (some ⟨k, 0, none⟩), .iface 130 (.pointer (some ⟨wd.heap.size, 0, none⟩)), .slice none 0 0] w fun e w' => ∃ v, e = .returned (.tuple #[v, .nilIface]) ∧ kI.R 20 w' wd.heap.size (fun _ => True) v (argsOf rows) ∧
      Buf wd.heap.size (T ++ valuesText (rows.map (·.length))) w' ∧ Below wd.heap.size wd w' := by
  have hln := hS.len
  have hpos : 0 < rows.length := List.length_pos_iff.2 hne
  have hn0 : ((shs.length : Int) == 0) = false := by simp; intro h; subst h; simp at hln; omega
  have HBW := Lib.hid hbw
  have HBUF := Lib.hid hbuf
  have HD := Lib.hid hd
  have HV := Lib.hid hV
  have HS := Lib.hid hS
  have HX := Lib.hid hxl
  have HLN := Lib.hid hln
  have hc6 : w.cell? ⟨k, 6, none⟩ = some (.slice Av shs.length cv) := pw_cell_below hbw ((blk_cell hd 6).trans rfl)
  have hsh : shs.length ≤ 1000 := by omega
  clear hbw hbuf hd hV hS hxl hln
  go_enter Tryd.func72, Tryd.ntmps72
  go_wp2_with fail
  refine (ioWrite79 _ T ⟨#[86, 65, 76, 85, 69, 83, 32]⟩ _ HBUF.out (by omega) (by decide)).mono ?_
  rintro e w1 ⟨rfl, hbuf1, hb1, hk1⟩
  have hb01 := HBW.out.trans hb1
  have hc6' : w1.cell? ⟨k, 6, none⟩ = some (.slice Av shs.length cv) := pw_cell_below hb01 ((blk_cell HD.out 6).trans rfl)
  have HBUF1 := Lib.hid hbuf1
  have HB01 := Lib.hid hb01
  clear hbuf1 hb1 hk1 hb01 hc6
  go_wp2_with fail
  obtain ⟨w2, hrun, hR8, hb2, hs2⟩ := make_strings w1 shs.length (by omega) wd.heap.size HB01.out.size
  rw [hrun]
  have hb02 := HB01.out.trans (hb2.mono HB01.out.size)
  have hbuf2 := HBUF1.out.kept (kept_below hb2 0) (by decide) (by decide)
  have hc6'' : w2.cell? ⟨k, 6, none⟩ = some (.slice Av shs.length cv) := pw_cell_below hb2 hc6'
  have HB02 := Lib.hid hb02
  have HBUF2 := Lib.hid hbuf2
  have HR8 := Lib.hid hR8
  clear hrun hb02 hbuf2 hR8 hb2 hc6' HBUF1 HB01
  go_wp2_with fail
  have hg8 : w1.heap.size < w2.heap.size := hs2
  generalize hG : w1.heap.size = g8 at *
  clear hG
  go_loopg [2, 40] shs.length (fun m v2 i wr => ∃ r : Nat, i = .int .i64 r ∧ r ≤ shs.length ∧ Aside0 (r + m = shs.length) ∧
    Aside0 (kI.R 20 wr wd.heap.size (fun _ => True) v2 (argsOf (rows.take r))) ∧
    Aside0 (Kd.string.R 9 wr wd.heap.size (fun _ => True) (.slice (some ⟨g8, 0, none⟩) shs.length shs.length) ((rows.take r).map rowBA ++ List.replicate (shs.length - r) ⟨#[]⟩)) ∧
    Aside0 (Buf wd.heap.size (T ++ [86, 65, 76, 85, 69, 83, 32]) wr) ∧ Aside0 (Below wd.heap.size wd wr))
  case atStart => exact ⟨0, rfl, Nat.zero_le _, ⟨by omega⟩, ⟨Kd.R_nil _ _ _ _ _⟩, ⟨by simpa using HR8.out⟩, ⟨HBUF2.out⟩, ⟨HB02.out⟩⟩
  case round =>
    obtain ⟨r, rfl, hr, hm, hR2, hR8r, hbufr, hb0r⟩ := hrel
    obtain ⟨gko, hko⟩ : ∃ x, x = gk := ⟨_, rfl⟩
    have HKO := Lib.hid hko
    clear hko
    by_cases hlt : r < shs.length
    · obtain ⟨ad, s, rfl, hy, hx0⟩ := at_sc HV.out r hlt
      obtain ⟨A, c, xs, rfl, hrow, hC⟩ := HS.out.get r s hy
      have hxl := HX.out xs (List.mem_of_getElem? hrow)
      replace hx0 := pw_cell_below hb0r.out hx0
      simp only at hx0
      have HROW := Lib.hid hrow
      have HC := Lib.hid hC
      clear hrow hC hy
      go_wp2_with fail
      obtain ⟨w3, hrun, hR11, hb3, hs3⟩ := make_strings wr xs.length (by omega) wr.heap.size (Nat.le_refl _)
      rw [hrun]
      have HR11 := Lib.hid hR11
      have HK3 := Lib.hid (kept_below hb3 20)
      have HB3 := Lib.hid (hb0r.out.trans (hb3.mono hb0r.out.size))
      have HR2 := Lib.hid (Kd.R_below hR2.out hb3)
      have HR8R := Lib.hid hR8r.out
      have HBUFR := Lib.hid hbufr.out
      have HB0R := Lib.hid hb0r.out
      clear hrun hR11 hb3 hR2 hR8r hbufr hb0r
      have hgr : wr.heap.size < w3.heap.size := hs3
      have hbr : wd.heap.size ≤ wr.heap.size := HB0R.out.size
      generalize hG : wr.heap.size = g11 at *
      have HG := Lib.hid hG
      clear hG hs3
      go_wp2
      go_loopg [2, 50] xs.length (fun m' va i wx => ∃ v : Nat, i = .int .i64 v ∧ v ≤ xs.length ∧ Aside0 (v + m' = xs.length) ∧
        Aside0 (kI.R 20 wx wd.heap.size (fun _ => True) va (argsOf (rows.take r) ++ (xs.take v).map anyOf)) ∧
        Aside0 (Kd.string.R 9 wx g11 (fun _ => True) (.slice (some ⟨g11, 0, none⟩) xs.length xs.length) (List.replicate v ⟨#[63]⟩ ++ List.replicate (xs.length - v) ⟨#[]⟩)) ∧
        Aside0 (Lib.OthersKept 20 none wr wx) ∧ Aside0 (Below wd.heap.size wd wx) ∧ Aside0 (g11 ≤ wx.heap.size))
      case atStart => exact ⟨0, rfl, Nat.zero_le _, ⟨by omega⟩, ⟨by simpa using HR2.out⟩, ⟨by simpa using HR11.out⟩, ⟨HK3.out⟩, ⟨HB3.out⟩, ⟨by omega⟩⟩
      case round =>
        obtain ⟨v, rfl, hv, hmv, hRa, hR1, hkx, hbx, hgx⟩ := hrel
        by_cases hvl : v < xs.length
        · obtain ⟨ax, y, rfl, hy, hx0⟩ := at_kI HC.out v hvl
          obtain rfl : anyOf xs[v] = y := by
            rw [List.getElem?_map, List.getElem?_eq_getElem hvl] at hy
            simpa using hy
          clear hy
          have hsn := take_snoc_map anyOf xs v hvl
          generalize xs[v] = x at *
          have HSN := Lib.hid hsn
          clear hsn
          replace hx0 := pw_cell_below hbx.out hx0
          have hcl := encI_cells (anyOf x)
          unfold Value.cells at hcl
          have k1 := taS x
          have hlr : (List.replicate v (⟨#[63]⟩ : ByteArray) ++ List.replicate (xs.length - v) (⟨#[]⟩ : ByteArray)).length = xs.length := by simp; omega
          have hR1' := hR1.out
          obtain ⟨hcx, hfx⟩ := Kd.R_celln (h1 := fun _ => rfl) (⟨#[]⟩ : ByteArray) hR1' (v : Int) (by omega) (by omega)
          simp only [Int.toNat_natCast] at hcx hfx
          have hput := Kd.R_putn (h1 := fun _ => rfl) hR1' (v : Int) (⟨#[63]⟩ : ByteArray)
          simp only [Int.toNat_natCast] at hput
          have HPUT := Lib.hid hput
          obtain ⟨cs11, hb11⟩ := Kd.R_typed hR1' g11 rfl
          have hks := kept_set hb11 v (.string ⟨#[63]⟩)
          have hfl : (argsOf (rows.take r)).length ≤ 1000000 := by unfold argsOf; rw [List.length_map]; exact flat_take rows HX.out hrl r
          have HRAW := Lib.hid (kept_R hRa.out hks (one_ne (by decide) rfl) (by simp))
          have HBXW := Lib.hid (hbx.out.setCell (p := ⟨g11, v, none⟩) hbr (.string ⟨#[63]⟩))
          have hszx := hbx.out.size
          clear hput hR1' hlr hb11 hks
          go_wp2_with (first | (at_builtin; refine Kd.R_append kI (w0 := wd) wd.heap.size rfl (.tmp 80) (.tmp 82) 61 20 .nilIface 16 rfl Tryd.underlying61 Tryd.info20 rfl Nat.one_pos (by decide) _ _ (anyOf x) [encI (anyOf x)] (fun _ => True) (fun _ => False) rfl (by simp [Act.eval]) rfl (fun _ h => h.elim) (fun _ _ => trivial) HRAW.out HBXW.out (by simp; omega) (by simp only [List.length_append, List.length_map, List.length_take]; omega) ?_))
          intro va4 w4 hR4 hB4 hg4 _
          have hK4 := kept_grown hg4 (fun k hk => Kd.R_typed HRAW.out k hk)
          have hR11 := kept_R (d := Kd.string) HPUT.out hK4 (one_ne (by decide) rfl) (by simp)
          rw [set_rep _ _ _ _ hvl] at hR11
          have hkx4 := kept_trans (kept_new hkx.out (Nat.le_of_eq HG.out) v (.string ⟨#[63]⟩)) hK4
          have hg4s := hg4.size
          have hgx4 : g11 ≤ w4.heap.size := by have := hgx.out; simp at hg4s; omega
          have hmm := hmv.out
          have HR4 := Lib.hid hR4
          have HB4 := Lib.hid hB4
          have HR11' := Lib.hid hR11
          have HKX4 := Lib.hid hkx4
          clear hK4 hR4 hB4 hR11 hkx4 hg4 hRa hR1 hkx hbx hgx hcx hfx hx0 hcl k1 hg4s
          go_wp2
          go_roundg (gk - 1)
          case measure => omega
          case rel => exact ⟨v + 1, by go_num, by omega, ⟨by omega⟩, ⟨by rw [HSN.out, List.map_take]; exact HR4.out⟩, ⟨HR11'.out⟩, ⟨HKX4.out⟩, ⟨HB4.out⟩, ⟨hgx4⟩⟩
        · obtain rfl : v = xs.length := by omega
          have hR1' := hR1.out
          rw [Nat.sub_self, List.replicate_zero, List.append_nil] at hR1'
          have hgl := Kd.R_lt hR1' g11 rfl
          have hc11 := (Kd.R_reads' hR1').2.2
          rw [List.length_replicate] at hc11
          have hR8x := kept_R HR8R.out hkx.out (one_ne (by decide) rfl) (by simp)
          have hbufx := HBUFR.out.kept hkx.out (by decide) (by decide)
          have HR8X := Lib.hid hR8x
          have HBUFX := Lib.hid hbufx
          have HC11 := Lib.hid hc11
          clear hR1' hc11 hR8x hbufx
          have hJ := join_le xs.length
          go_wp2_with fail
          refine (join70 g11 xs.length xs.length _ _ HC11.out hgl (Nat.le_refl _) (by omega) (by simp; omega)).mono ?_
          rintro e w5 ⟨rfl, hb5⟩
          have hR85 := Kd.R_below HR8X.out hb5
          obtain ⟨hcx, hfx⟩ := Kd.R_celln (h1 := fun _ => rfl) (⟨#[]⟩ : ByteArray) hR85 (r : Int) (by omega) (by omega)
          have hput := fun z => Kd.R_putn (h1 := fun _ => rfl) hR85 (r : Int) (z : ByteArray)
          simp only [Int.toNat_natCast] at hcx hfx hput
          have hbx5 := hbx.out.trans (hb5.mono hbx.out.size)
          have hbuf5 := HBUFX.out.kept (kept_below hb5 0) (by decide) (by decide)
          have hRa5 := Kd.R_below hRa.out hb5
          obtain ⟨cs8, hb8⟩ := Kd.R_typed hR85 g8 rfl
          have HPUT := Lib.hid hput
          have HBX5 := Lib.hid hbx5
          have HBUF5 := Lib.hid hbuf5
          have HRA5 := Lib.hid hRa5
          have HB8 := Lib.hid hb8
          clear hput hbx5 hbuf5 hRa5 hb5 hR85 hRa hR1 hkx hbx hgx hb8
          go_wp2
          have hrl2 := HLN.out
          have hput := HPUT.out (rowBA xs)
          rw [set_app _ _ _ _ _ (by rw [List.length_map, List.length_take]; omega) hlt] at hput
          have hst : (rows.take (r + 1)).map rowBA = (rows.take r).map rowBA ++ [rowBA xs] := by
            obtain ⟨hl, hx⟩ := List.getElem?_eq_some_iff.1 HROW.out
            rw [List.take_succ_eq_append_getElem hl, List.map_append, hx]; rfl
          rw [← hst] at hput
          have hk8 := kept_set HB8.out r (.string (rowBA xs))
          have hra := kept_R HRA5.out hk8 (one_ne (by decide) rfl) (by simp)
          rw [List.take_length, ← argsOf_snoc rows r xs HROW.out] at hra
          have hbf : Buf wd.heap.size (T ++ [86, 65, 76, 85, 69, 83, 32]) (w5.setCell ⟨g8, r, none⟩ (.string (rowBA xs))) := HBUF5.out.kept hk8 (by decide) (by decide)
          have HPUT' := Lib.hid hput
          have HRA' := Lib.hid hra
          have HBF := Lib.hid hbf
          have hmm := hm.out
          have hbs : Below wd.heap.size wd (w5.setCell ⟨g8, r, none⟩ (.string (rowBA xs))) := HBX5.out.setCell (p := ⟨g8, r, none⟩) (Kd.R_base (HPUT.out ⟨#[]⟩) g8 rfl) _
          have HBS := Lib.hid hbs
          clear hput hst hk8 hra hbf hbs hrl2
          have hko := HKO.out
          go_roundg (gko - 1)
          case measure => omega
          case rel => exact ⟨r + 1, by go_num, by omega, ⟨by omega⟩, ⟨HRA'.out⟩, ⟨HPUT'.out⟩, ⟨HBF.out⟩, ⟨HBS.out⟩⟩
    · obtain rfl : r = shs.length := by omega
      have hR8' := hR8r.out
      rw [Nat.sub_self, List.replicate_zero, List.append_nil, HLN.out, List.take_length] at hR8'
      have hgl := Kd.R_lt hR8' g8 rfl
      have hc8 := (Kd.R_reads' hR8').2.2
      rw [List.length_map, ← HLN.out] at hc8
      have hRa := hR2.out
      rw [HLN.out, List.take_length] at hRa
      have HC8 := Lib.hid hc8
      have HRA := Lib.hid hRa
      have HBUFR := Lib.hid hbufr.out
      have HB0R := Lib.hid hb0r.out
      have hmap : (rows.map rowBA).map (·.data.toList) = (rows.map (·.length)).map rowText := by
        rw [List.map_map, List.map_map]
        exact List.map_congr_left (fun xs _ => rowBA_list xs)
      have hJ : (Lib.join ((rows.map rowBA).map (·.data.toList)) [44]).length ≤ 3000000 := by
        rw [hmap]
        refine Nat.le_trans (join_le2 _ 2002 ?_) ?_
        · intro x hx
          obtain ⟨n, hn, rfl⟩ := List.mem_map.1 hx
          obtain ⟨xs, hxs, rfl⟩ := List.mem_map.1 hn
          exact rowText_le _ (HX.out xs hxs)
        · simp only [List.length_map]
          omega
      have HMAP := Lib.hid hmap
      have HJ := Lib.hid hJ
      clear hR8' hc8 hR2 hRa hR8r hbufr hb0r hmap hJ
      go_wp2_with fail
      refine (join70 g8 shs.length shs.length _ _ HC8.out hgl (Nat.le_refl _) (by omega) (Nat.le_trans HJ.out (by decide))).mono ?_
      rintro e w5 ⟨rfl, hb5⟩
      have hbx5 := HB0R.out.trans (hb5.mono HB0R.out.size)
      have hbuf5 := HBUFR.out.kept (kept_below hb5 0) (by decide) (by decide)
      have hRa5 := Kd.R_below HRA.out hb5
      have HBX5 := Lib.hid hbx5
      have HBUF5 := Lib.hid hbuf5
      have HRA5 := Lib.hid hRa5
      clear hbx5 hbuf5 hRa5 hb5
      generalize hS : (⟨(Lib.join ((rows.map rowBA).map (·.data.toList)) [44]).toArray⟩ : ByteArray) = sv
      have hsl : sv.data.toList = Lib.join ((rows.map (·.length)).map rowText) [44] := by rw [← hS, ← HMAP.out]
      have hss : sv.size ≤ 1000000000000 := by rw [← hS]; show (Array.size _) ≤ _; simp only [List.size_toArray]; exact Nat.le_trans HJ.out (by decide)
      have HSL := Lib.hid hsl
      clear hS hsl
      go_wp2_with fail
      refine (ioWrite79 _ (T ++ [86, 65, 76, 85, 69, 83, 32]) sv _ HBUF5.out (by simp; omega) hss).mono ?_
      rintro e w6 ⟨rfl, hbuf6, hb6, hk6⟩
      have hRa6 := kept_R HRA5.out hk6 (one_ne (by decide) rfl) (by
        intro b hb
        injection hb with hb
        subst hb
        obtain ⟨cs, hcs⟩ := Buf.blk HBUF5.out
        exact ⟨cs, 135, hcs, one_ne (by decide) rfl⟩)
      have hbx6 := HBX5.out.trans hb6
      rw [HSL.out] at hbuf6
      have HBUF6 := Lib.hid hbuf6
      have HRA6 := Lib.hid hRa6
      have HBX6 := Lib.hid hbx6
      clear hbuf6 hRa6 hbx6 hb6 hk6
      go_wp2
      go_returns
      exact ⟨_, rfl, HRA6.out, by have := HBUF6.out; rw [List.append_assoc] at this; exact this, HBX6.out⟩
end Go.Proofs.YtkefdfnlnkeigaaDoor

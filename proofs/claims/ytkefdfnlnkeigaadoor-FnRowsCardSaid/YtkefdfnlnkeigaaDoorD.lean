import Derived.Test.YtkefdfnlnkeigaaDoorC
import Derived.Deep.RegionHeld3
namespace Go.Proofs.YtkefdfnlnkeigaaDoor
open Go.RowKit Go.Proofs.YtkefdfnlnkeigaaDoorW.PrintWords Go.Proofs.YtkefdfnlnkeigaaDoor.PFnRows
set_option maxRecDepth 100000 in
set_option maxHeartbeats 1000000 in
theorem row40 (b : Nat) (w : World) (h : w.cell? ⟨b, 0, none⟩ = some (.slice none 0 0)) :
    Calls Tryd.prog 40 #[.pointer (some ⟨b, 0, none⟩), .int .i64 0, .int .i64 0] w fun e w' => e = .returned (.slice none 0 0) ∧ w' = w := by
  go_enter Tryd.func40, Tryd.ntmps40
  go_wp2
  refine wp_loop_rounds 1 ?_
  rw [rounds_succ]
  go_wp2
  go_returns
  exact ⟨rfl, rfl⟩

set_option maxRecDepth 100000 in
set_option maxHeartbeats 1000000 in
theorem anys39 (m : Value) (w : World) :
    Calls Tryd.prog 39 #[m, .slice none 0 0] w fun e w' => e = .returned (.slice none 0 0) ∧ w' = w := by
  go_enter Tryd.func39, Tryd.ntmps39
  go_wp2
  refine wp_loop_rounds 1 ?_
  rw [rounds_succ]
  go_wp2
  go_returns
  exact ⟨rfl, rfl⟩

set_option maxRecDepth 100000 in
set_option maxHeartbeats 1000000 in
theorem many26 (w : World) :
    Calls Tryd.prog 26 #[.slice none 0 0] w fun e w' => e = .returned (.tuple #[.slice none 0 0, .bool true]) ∧ Below w.heap.size w w' := by
  go_enter Tryd.func26, Tryd.ntmps26
  go_wp2_with fail
  refine (row40 _ _ (by simp)).mono ?_
  rintro e w2 ⟨rfl, rfl⟩
  go_wp2_with fail
  refine (anys39 _ _).mono ?_
  rintro e w2 ⟨rfl, rfl⟩
  go_wp2
  go_quiet (fail)
  go_wp2
  go_returns
  exact ⟨rfl, pw_below_drewN (by go_grown) nq⟩

theorem append_types {P : Program} {t t' e e' : TypeId} (ht : P.underlying t = some (.slice e)) (ht' : P.underlying t' = some (.slice e')) (ty : TypeId) (b : Option Addr) (l c : Nat) (x : Value) (W : World) :
    (Builtin.append_ #[t, t'] ty #[.slice b l c, x]).run P W = (Builtin.append_ #[t, t] ty #[.slice b l c, x]).run P W := by
  unfold Builtin.append_
  simp only [List.getElem?_toArray, List.getElem?_cons_zero, List.getElem?_cons_succ]
  simp only [Sem.run_bind, run_underlying ht, run_underlying ht', Result.andThen]
theorem wp_append_types {P : Program} {t t' e e' : TypeId} {s x : Operand} (ht : P.underlying t = some (.slice e)) (ht' : P.underlying t' = some (.slice e')) {o : Oper} {a : Act} {W : World} {K : Act → World → Prop} {Q : Exit → Act → World → Prop}
    (ho : o.op = .call { callee := .builtin .append, args := #[s, x], argTypes := #[t, t'] }) {b : Option Addr} {l c : Nat} (hs : a.eval s = .slice b l c)
    (h : Oper.wp P { o with op := .call { callee := .builtin .append, args := #[s, x], argTypes := #[t, t] } } a W K Q) : Oper.wp P o a W K Q := by
  unfold Oper.wp execOp at h ⊢
  simp only [ho, resolve, invoke, builtin, Sem.run_bind, Sem.run_pure, Result.andThen_ok, List.map_toArray, List.map_cons, List.map_nil, hs, append_types ht ht'] at h ⊢
  exact h
section
variable {P : Program} {ops : Array Oper} {o : Oper} {a : Act} {Q : Exit → Act → World → Prop} {Kc : Act → World → Prop} {α : Type}
theorem append_rows_step2 (d : Kd α) {Rr : α → List Value → Prop} {w0 W : World} (base : Nat) (hw : Region.wanted o (yielded ops a.tmps) = true) (s x : Operand) (t t' e e' : TypeId) (z : Value) (bytes : Nat)
    (ho : o.op = .call { callee := .builtin .append, args := #[s, x], argTypes := #[t, t'] })
    (ht : P.underlying t = some (.slice e)) (ht' : P.underlying t' = some (.slice e')) (hinfo : (P.info? e).map (fun i => (i.zero, i.size, i.bytes)) = some (some z, d.sz, bytes)) (hz : z.cells.size = d.sz) (hs0 : 0 < d.sz) (hb0 : 0 < bytes)
    (v : Value) (xs ys : List α) (A : Option Addr) (m c : Nat) (ok okp : Nat → Prop) (hs : a.eval s = v) (hx : a.eval x = .slice A m c)
    (HO : d.R e W base ok v xs) (HR : ReadsRow Rr d.sz W A m ys) (hKM : ∀ x cs, Rr x cs → d.M W base okp x cs) (hokp : ∀ k, okp k → ok k ∧ some k ≠ v.ownBlock) (hfresh : ∀ k, W.heap.size ≤ k → ok k)
    (HB : Below base w0 W) (hbase : base ≤ W.heap.size) (hl : (xs.length + m) * bytes ≤ 140737488355328)
    (h : ∀ v1 w1, d.R e w1 base ok v1 (xs ++ ys) → Below base w0 w1 → W.grownBy w1 v.ownBlock → (v1.ownBlock = v.ownBlock ∨ ∃ b, v1.ownBlock = some b ∧ W.heap.size ≤ b) → Kc (a.put o.dst v1) w1) :
    if Region.wanted o (yielded ops a.tmps) = true then Oper.wp P o a W Kc Q else Kc (a.put o.dst undef) W := by
  obtain ⟨A1, c1, hv⟩ := Kd.R_slice HO
  rw [if_pos hw]
  refine wp_append_types ht ht' ho (hs.trans hv) ?_
  have := Kd.R_append_rows_step (P := P) (ops := ops) (o := { o with op := .call { callee := .builtin .append, args := #[s, x], argTypes := #[t, t] } }) (a := a) (Q := Q) (Kc := Kc) d (w0 := w0) (W := W) base hw s x t e z bytes rfl ht hinfo hz hs0 hb0 v xs ys A m c ok okp hs hx HO HR hKM hokp hfresh HB hbase hl h
  rw [if_pos] at this
  · exact this
  · exact hw
end
theorem R_empty' {α : Type} (d : Kd α) (e : Nat) (W : World) (base : Nat) (h : base ≤ W.heap.size) : d.R e (W.alloc (.cells #[] e)).drew base (fun _ => True) (.slice (some ⟨W.heap.size, 0, none⟩) 0 0) [] := R_empty d e W.drew base h
def NewList (w w' : World) (nm : ByteArray) (q : Option Addr) (row : List Iv) (e : Ending) : Prop :=
  ∃ lv, NewEntry w w' nm (some (100, lv)) q e ∧ kI.R 20 w' w.heap.size (fun _ => True) lv row
theorem NewList.stored {w W w1 : World} {nm : ByteArray} {row : List Iv} {lv : Value} {q : Option Addr} {b k : Nat} (hk : w.heap.size ≤ k) (hkW : k < W.heap.size) (hw : Below w.heap.size w W) {p : Value} {t : TypeId} (ht : W.heap[k]? = some (.cells #[p] t (0, 0))) (h86 : t ≠ 86) (h20 : 20 ≠ t)
    (hh : w1.heap[b]? = some (.cells #[.string nm, encI (some (100, lv)), .bool false, .pointer q] 86 (0, 0))) (hb : Below W.heap.size W w1) (hr : kI.R 20 w1 W.heap.size (fun _ => True) lv row) :
    NewList w (w1.setCell ⟨k, 0, none⟩ (.pointer (some ⟨b, 0, none⟩))) nm q row (.returned (.agg #[.pointer (some ⟨b, 0, none⟩)])) :=
  ⟨lv, NewEntry.stored hk hkW hw ht h86 hh hb, Kd.R_lower (Kd.R_set hr ((hb.block k hkW).trans ht) (fun _ hq => (List.mem_cons.1 hq).elim (fun e => e ▸ h20) (fun h => absurd h List.not_mem_nil)) 0 _) hw.size⟩
theorem tal (v : Value) (w : World) : (Instr.typeAssert (.iface 100 v) 20 100 false).run Tryd.prog w = .ok v w := by kernel_rfl

set_option maxRecDepth 100000 in
set_option maxHeartbeats 1000000 in
theorem append41 (q : Option Addr) (nm : ByteArray) (es : List (ByteArray × Iv)) (old ys : List Iv) (A : Option Addr) (c : Nat) (w : World) (hC : Ch w q es)
    (hold : (find es nm = none ∧ old = []) ∨ ∃ lv, find es nm = some (some (100, lv)) ∧ RI w lv old) (hy : kI.C w A ys.length ys) (hl : old.length + ys.length ≤ 100000) :
    Calls Tryd.prog 41 #[.agg #[.pointer q], .string nm, .slice A ys.length c] w fun e w' => NewList w w' nm q (old ++ ys) e := by
  have HC := Lib.hid hC
  have HY := Lib.hid hy
  clear hC hy
  go_enter Tryd.func41, Tryd.ntmps41
  go_wp2_with fail
  refine (lookup44 q nm es _ (HC.out.keep (by go_grown))).mono ?_
  rintro e w1 ⟨rfl, hb⟩
  have hs := hb.size
  simp at hs
  have hc1 : w1.cell? ⟨w.heap.size, 0, none⟩ = some (.pointer q) := pw_cell_below hb (by simp)
  have hc : w1.cell? ⟨w.heap.size + 1, 0, none⟩ = some (.pointer none) := pw_cell_below hb (by simp)
  have hf : w1.frozen? ⟨w.heap.size + 1, 0, none⟩ = false := (hb.frozen (p := ⟨w.heap.size + 1, 0, none⟩) (by simp)).trans (by simp)
  have hh : w1.heap[w.heap.size + 1]? = some (.cells #[.pointer none] 66 (0, 0)) := (hb.block _ (by simp)).trans (new_at _ _ _ (by simp))
  have HH := Lib.hid hh
  have HB := Lib.hid hb
  clear hb hh
  have k1 := tal
  rcases hold with ⟨hfi, rfl⟩ | ⟨lv, hfi, hlv⟩
  · simp only [hfi, Option.getD_none, Option.isSome_none, encI]
    have hlr : kI.C w none 0 ([] : List Iv) := (Kd.R_reads' (Kd.R_nil kI 20 w 0 (fun _ => True))).2.2
    have HLR := Lib.hid hlr
    clear hlr
    go_wp2_with fail
    go_region_held3 (fun w' => w'.cell? ⟨w.heap.size, 0, none⟩ = some (.pointer q))
      (first | exact hc1 | exact hS4 | exact hS3 | exact hS2 | exact (pw_cell_below (below_drew (below_alloc (Below.refl _ _) _)) hc1) | (simp [go_sem, hS4]; done))
      (first
        | (refine Kd.R_append_rows_step kI (w0 := w1) w1.heap.size (by rfl) (.tmp 21) (.tmp 22) 100 20 .nilIface 16 rfl Tryd.underlying100 Tryd.info20 rfl Nat.one_pos (by decide) _ [] [] none 0 0 (fun _ => True) (fun _ => False) rfl rfl (R_empty' kI 20 _ _ (by omega)) (Kd.C_below (Kd.C_below HLR.out (Below.trans (by go_grown) (HB.out.mono (by simp; omega)))) (by go_grown)) (fun _ _ h => h) (fun _ h => h.elim) (fun _ _ => trivial) (by go_grown) (by simp) (by simp <;> omega) ?_
           intro v2 w2 hR2 hB2 _ _
           have hS2 : w2.cell? ⟨w.heap.size, 0, none⟩ = some (.pointer q) := pw_cell_below hB2 hc1
           obtain ⟨A2, c2, rfl, hl2, hr2⟩ := Kd.R_reads hR2)
        | (refine append_rows_step2 kI (w0 := w1) w1.heap.size (by rfl) (.tmp 23) (.tmp 24) 100 61 20 20 .nilIface 16 rfl Tryd.underlying100 Tryd.underlying61 Tryd.info20 rfl Nat.one_pos (by decide) _ ([] ++ []) ys A ys.length c (fun _ => True) (fun _ => False) rfl rfl hR2 (Kd.C_below HY.out (Below.trans (Below.trans (by go_grown) (HB.out.mono (by simp; omega))) (hB2.mono (by omega)))) (fun _ _ h => h) (fun _ h => h.elim) (fun _ _ => trivial) hB2 (hB2.size) (by simp <;> omega) ?_
           intro v3 w3 hR3 hB3 _ _
           have hS3 : w3.cell? ⟨w.heap.size, 0, none⟩ = some (.pointer q) := pw_cell_below hB3 hc1)
        | (refine (zzSet_any q nm (some (100, v3)) _).mono ?_
           rintro e w4 ⟨b, rfl, hh4, hb4⟩
           have hB4 : Below w1.heap.size w1 w4 := hB3.trans (hb4.mono hB3.size)
           have hS4 : w4.cell? ⟨w.heap.size, 0, none⟩ = some (.pointer q) := pw_cell_below hB4 hc1
           have hc4 : w4.cell? ⟨w.heap.size + 1, 0, none⟩ = some (.pointer none) := pw_cell_below hB4 hc
           have hf4 : w4.frozen? ⟨w.heap.size + 1, 0, none⟩ = false := (hB4.frozen (p := ⟨w.heap.size + 1, 0, none⟩) (by simp; omega)).trans hf))
    have HR3 := Lib.hid hR3
    have HH4 := Lib.hid hh4
    have HB4 := Lib.hid hb4
    have HBB := Lib.hid hB4
    have hs1 := hB3.size
    clear hR3 hh4 hb4 hB4 hB3 hB2 hR2 hr2
    go_wp2
    refine bodyPost_ret (v := .agg #[.pointer (some ⟨b, 0, none⟩)]) (by simp [results, Tryd.results41, go_sem, hc4]) rfl ?_
    refine ⟨v3, NewEntry.stored (W := w1) (by simp) (by omega) (Below.trans (by go_grown) (HB.out.mono (by simp; omega))) HH.out (by decide) HH4.out HBB.out, ?_⟩
    exact Kd.R_mono (Kd.R_lower (Kd.R_far (Kd.R_bound (Kd.R_below HR3.out HB4.out)) (p := ⟨w.heap.size + 1, 0, none⟩) (fun k hk => by have := hk.2.1; simp only; omega) _) (by omega)) (fun _ _ => trivial)
  · simp only [hfi, Option.getD_some, Option.isSome_some, encI]
    obtain ⟨A', c', rfl, hlc, hlr⟩ := hlv
    have HLR := Lib.hid hlr
    clear hlr
    go_wp2_with fail
    go_region_held3 (fun w' => w'.cell? ⟨w.heap.size, 0, none⟩ = some (.pointer q))
      (first | exact hc1 | exact hS4 | exact hS3 | exact hS2 | exact (pw_cell_below (below_drew (below_alloc (Below.refl _ _) _)) hc1) | (simp [go_sem, hS4]; done))
      (first
        | (refine Kd.R_append_rows_step kI (w0 := w1) w1.heap.size (by rfl) (.tmp 21) (.tmp 22) 100 20 .nilIface 16 rfl Tryd.underlying100 Tryd.info20 rfl Nat.one_pos (by decide) _ [] old A' old.length c' (fun _ => True) (fun _ => False) rfl rfl (R_empty' kI 20 _ _ (by omega)) (Kd.C_below (Kd.C_below HLR.out (Below.trans (by go_grown) (HB.out.mono (by simp; omega)))) (by go_grown)) (fun _ _ h => h) (fun _ h => h.elim) (fun _ _ => trivial) (by go_grown) (by simp) (by simp <;> omega) ?_
           intro v2 w2 hR2 hB2 _ _
           have hS2 : w2.cell? ⟨w.heap.size, 0, none⟩ = some (.pointer q) := pw_cell_below hB2 hc1
           obtain ⟨A2, c2, rfl, hl2, hr2⟩ := Kd.R_reads hR2)
        | (refine append_rows_step2 kI (w0 := w1) w1.heap.size (by rfl) (.tmp 23) (.tmp 24) 100 61 20 20 .nilIface 16 rfl Tryd.underlying100 Tryd.underlying61 Tryd.info20 rfl Nat.one_pos (by decide) _ ([] ++ old) ys A ys.length c (fun _ => True) (fun _ => False) rfl rfl hR2 (Kd.C_below HY.out (Below.trans (Below.trans (by go_grown) (HB.out.mono (by simp; omega))) (hB2.mono (by omega)))) (fun _ _ h => h) (fun _ h => h.elim) (fun _ _ => trivial) hB2 (hB2.size) (by simp <;> omega) ?_
           intro v3 w3 hR3 hB3 _ _
           have hS3 : w3.cell? ⟨w.heap.size, 0, none⟩ = some (.pointer q) := pw_cell_below hB3 hc1)
        | (refine (zzSet_any q nm (some (100, v3)) _).mono ?_
           rintro e w4 ⟨b, rfl, hh4, hb4⟩
           have hB4 : Below w1.heap.size w1 w4 := hB3.trans (hb4.mono hB3.size)
           have hS4 : w4.cell? ⟨w.heap.size, 0, none⟩ = some (.pointer q) := pw_cell_below hB4 hc1
           have hc4 : w4.cell? ⟨w.heap.size + 1, 0, none⟩ = some (.pointer none) := pw_cell_below hB4 hc
           have hf4 : w4.frozen? ⟨w.heap.size + 1, 0, none⟩ = false := (hB4.frozen (p := ⟨w.heap.size + 1, 0, none⟩) (by simp; omega)).trans hf))
    have HR3 := Lib.hid hR3
    have HH4 := Lib.hid hh4
    have HB4 := Lib.hid hb4
    have HBB := Lib.hid hB4
    have hs1 := hB3.size
    clear hR3 hh4 hb4 hB4 hB3 hB2 hR2 hr2
    go_wp2
    refine bodyPost_ret (v := .agg #[.pointer (some ⟨b, 0, none⟩)]) (by simp [results, Tryd.results41, go_sem, hc4]) rfl ?_
    refine ⟨v3, NewEntry.stored (W := w1) (by simp) (by omega) (Below.trans (by go_grown) (HB.out.mono (by simp; omega))) HH.out (by decide) HH4.out HBB.out, ?_⟩
    exact Kd.R_mono (Kd.R_lower (Kd.R_far (Kd.R_bound (Kd.R_below HR3.out HB4.out)) (p := ⟨w.heap.size + 1, 0, none⟩) (fun k hk => by have := hk.2.1; simp only; omega) _) (by omega)) (fun _ _ => trivial)

theorem append41' (q : Option Addr) (nm : ByteArray) (es : List (ByteArray × Iv)) (old ys : List Iv) (A : Option Addr) (n c : Nat) (hn : ys.length = n) (w : World) (hC : Ch w q es)
    (hold : (find es nm = none ∧ old = []) ∨ ∃ lv, find es nm = some (some (100, lv)) ∧ RI w lv old) (hy : kI.C w A n ys) (hl : old.length + n ≤ 100000) :
    Calls Tryd.prog 41 #[.agg #[.pointer q], .string nm, .slice A n c] w fun e w' => NewList w w' nm q (old ++ ys) e := by
  subst hn
  exact append41 q nm es old ys A c w hC hold hy hl
theorem at_sc {α : Type} {enc : α → Value} {h1 : ∀ x, (enc x).oneCell' = true} {w : World} {A : Option Addr} {n : Nat} {xs : List α} (h : (Kd.scalar enc h1).C w A n xs) (j : Nat) (hj : j < n) : ∃ ad x, A = some ad ∧ xs[j]? = some x ∧ w.cell? (ad.add j) = some (enc x) := by
  obtain ⟨ad, e, hc⟩ := h.2.2 (by omega)
  have hl : j < xs.length := by have := h.1; omega
  obtain ⟨c, _, hK, hcell⟩ := hc j _ (List.getElem?_eq_getElem hl)
  have hK' : c = [enc xs[j]] := hK
  subst hK'
  refine ⟨ad, xs[j], e, List.getElem?_eq_getElem hl, ?_⟩
  have h2 := hcell 0 _ rfl
  have hsz : (Kd.scalar enc h1).sz = 1 := rfl
  rw [hsz, Nat.mul_one, Nat.add_zero] at h2
  exact h2
theorem at_str {w : World} {A : Option Addr} {n : Nat} {xs : List ByteArray} (h : Kd.string.C w A n xs) (j : Nat) (hj : j < n) : ∃ ad x, A = some ad ∧ xs[j]? = some x ∧ w.cell? (ad.add j) = some (.string x) := at_sc h j hj
theorem bn1 (l c : Nat) (w : World) : (binOp BinOp.eql 22 (.slice none l c) (.slice none 0 0)).run Tryd.prog w = .ok (.bool true) w := by kernel_rfl
theorem bn2 (ad : Addr) (l c : Nat) (w : World) : (binOp BinOp.eql 22 (.slice (some ad) l c) (.slice none 0 0)).run Tryd.prog w = .ok (.bool false) w := by kernel_rfl
theorem ta22s (v : Value) (w : World) : (Instr.typeAssert (.iface 22 v) 20 22 true).run Tryd.prog w = .ok (.tuple #[v, .bool true]) w := by kernel_rfl

set_option maxRecDepth 100000 in
set_option maxHeartbeats 1000000 in
theorem extend37 (q : Option Addr) (nm : ByteArray) (es : List (ByteArray × Iv)) (old : List Iv) (xs : List ByteArray) (A : Option Addr) (c : Nat) (w : World) (hC : Ch w q es)
    (hold : (find es nm = none ∧ old = []) ∨ ∃ lv, find es nm = some (some (100, lv)) ∧ RI w lv old) (hy : Kd.string.C w A xs.length xs) (hl : old.length + xs.length ≤ 1000) :
    Calls Tryd.prog 37 #[.agg #[.pointer q], .string nm, .iface 22 (.slice A xs.length c)] w fun e w' => NewList w w' nm q (old ++ xs.map fun s => some (9, .string s)) e := by
  have HC := Lib.hid hC
  have HY := Lib.hid hy
  clear hC
  have k1 := ta22s
  have k2 := bn1
  have k3 := bn2
  rcases A with _ | ad
  · have hn : xs = [] := by
      rcases xs with _ | ⟨x, xs⟩
      · rfl
      · obtain ⟨_, e, _⟩ := hy.2.2 (by simp)
        cases e
    subst hn
    clear hy HY
    go_enter Tryd.func37, Tryd.ntmps37
    go_wp2_with fail
    refine (append41 q nm es old [] none 0 _ (HC.out.keep (by go_grown)) ?_ (Kd.R_reads' (Kd.R_nil kI 20 _ 0 (fun _ => True))).2.2 (by simp at hl ⊢; omega)).mono ?_
    · rcases hold with h | ⟨lv, h1, h2⟩
      · exact .inl h
      · exact .inr ⟨lv, h1, h2.below (by go_grown)⟩
    rintro e w1 ⟨lv, ⟨b, rfl, hh, hb⟩, hRI⟩
    have hs := hb.size
    have hc : w1.cell? ⟨w.heap.size + 1, 0, none⟩ = some (.pointer none) := pw_cell_below hb (by simp)
    have hf : w1.frozen? ⟨w.heap.size + 1, 0, none⟩ = false := (hb.frozen (p := ⟨w.heap.size + 1, 0, none⟩) (by simp)).trans (by simp)
    have HH := Lib.hid hh
    have HB := Lib.hid hb
    have HR := Lib.hid hRI
    clear hh hb hRI
    go_wp2
    refine bodyPost_ret (v := .agg #[.pointer (some ⟨b, 0, none⟩)]) (by simp [results, Tryd.results37, go_sem, hc]) rfl ?_
    exact NewList.stored (by simp) (by simp) (by go_grown) (new_at _ _ _ (by simp)) (by decide) (by decide) HH.out HB.out (by simpa using HR.out)
  · clear hy
    go_enter Tryd.func37, Tryd.ntmps37
    go_wp2
    obtain ⟨W0, hW⟩ : ∃ W0, W0 = (w.alloc (.cells #[.pointer q] 66)).alloc (.cells #[.pointer none] 66) := ⟨_, rfl⟩
    rw [← hW]
    have hsz : W0.heap.size = w.heap.size + 2 := by simp [hW]
    have hBW : Below w.heap.size w W0 := by rw [hW]; go_grown
    have hc0 : W0.cell? ⟨w.heap.size, 0, none⟩ = some (.pointer q) := by simp [hW]
    have hc : W0.cell? ⟨w.heap.size + 1, 0, none⟩ = some (.pointer none) := by simp [hW]
    have hf : W0.frozen? ⟨w.heap.size + 1, 0, none⟩ = false := by simp [hW]
    have hh : W0.heap[w.heap.size + 1]? = some (.cells #[.pointer none] 66 (0, 0)) := by rw [hW]; exact new_at _ _ _ (by simp)
    clear hW
    have HBW := Lib.hid hBW
    have HSZ := Lib.hid hsz
    clear hsz
    have HH0 := Lib.hid hh
    clear hBW hh
    go_loopg [8, 23] xs.length (fun k v i wr => ∃ j : Nat, i = .int .i64 j ∧ j ≤ xs.length ∧ Aside0 (j + k = xs.length) ∧ Aside0 (kI.R 20 wr W0.heap.size (fun _ => True) v ((xs.take j).map fun s => some (9, .string s))) ∧ Aside0 (Below W0.heap.size W0 wr))
    case atStart => exact ⟨0, rfl, Nat.zero_le _, ⟨by omega⟩, ⟨Kd.R_nil _ _ _ _ _⟩, ⟨Below.refl _ _⟩⟩
    case round =>
      obtain ⟨j, rfl, hj, hk, hR, hb⟩ := hrel
      by_cases hlt : j < xs.length
      · obtain ⟨ad', y, e, hy, hx0⟩ := at_str HY.out j hlt
        injection e with e
        subst e
        obtain rfl : xs[j] = y := by
          rw [List.getElem?_eq_getElem hlt] at hy
          simpa using hy
        clear hy
        have hsn := take_snoc_map (fun s : ByteArray => (some (9, Value.string s) : Iv)) xs j hlt
        generalize hX : xs[j] = x at *
        replace hx0 := pw_cell_below (hb.out.mono (Nat.le_refl _)) (pw_cell_below HBW.out hx0)
        have HSN := Lib.hid hsn
        clear hsn hX
        go_wp2_with (first | (at_builtin; refine Kd.R_append kI (w0 := W0) W0.heap.size rfl (.tmp 27) (.tmp 30) 61 20 .nilIface 16 rfl Tryd.underlying61 Tryd.info20 rfl Nat.one_pos (by decide) _ ((xs.take j).map fun s => some (9, .string s)) (some (9, .string x)) [.iface 9 (.string x)] (fun _ => True) (fun _ => False) rfl rfl rfl (fun _ h => h.elim) (fun _ _ => trivial) hR.out hb.out hb.out.size (by simp; omega) ?_))
        intro v1 w3 hR3 hB3 _ _
        have HR3 := Lib.hid hR3
        have HB3 := Lib.hid hB3
        clear hR3 hB3
        go_wp2
        go_roundg (gk - 1)
        case measure => have := hk.out; omega
        case rel => exact ⟨j + 1, by go_num, by omega, ⟨by have := hk.out; omega⟩, ⟨by rw [HSN.out, List.map_take]; exact HR3.out⟩, ⟨HB3.out⟩⟩
      · obtain rfl : j = xs.length := by omega
        have hcr : wr.cell? ⟨w.heap.size, 0, none⟩ = some (.pointer q) := pw_cell_below hb.out hc0
        obtain ⟨A2, c2, rfl, _, hr2⟩ := Kd.R_reads hR.out
        have hHC := (HC.out.keep HBW.out).keep hb.out
        rw [List.take_length, List.length_map] at hr2
        have hss := hb.out.size
        have hcw : wr.cell? ⟨w.heap.size + 1, 0, none⟩ = some (.pointer none) := pw_cell_below hb.out hc
        have hhw : wr.heap[w.heap.size + 1]? = some (.cells #[.pointer none] 66 (0, 0)) := (hb.out.block _ (by have := HSZ.out; omega)).trans HH0.out
        have hfw : wr.frozen? ⟨w.heap.size + 1, 0, none⟩ = false := (hb.out.frozen (p := ⟨w.heap.size + 1, 0, none⟩) (by have := HSZ.out; simp only; omega)).trans hf
        have hbw := HBW.out.trans (hb.out.mono HBW.out.size)
        have HBWR := Lib.hid hbw
        have HHW := Lib.hid hhw
        have HRR := Lib.hid hr2
        have HCC := Lib.hid hHC
        clear hr2 hHC hR hf hc hc0 hbw hb hhw
        go_wp2_with fail
        refine (append41' q nm es old (xs.map fun s => some (9, .string s)) A2 xs.length c2 (by simp) wr HCC.out ?_ HRR.out (by omega)).mono ?_
        · rcases hold with h | ⟨lv, h1, h2⟩
          · exact .inl h
          · exact .inr ⟨lv, h1, h2.below HBWR.out⟩
        rintro e w1 ⟨lv, ⟨b, rfl, hh, hb⟩, hRI⟩
        have hs := hb.size
        have hc : w1.cell? ⟨w.heap.size + 1, 0, none⟩ = some (.pointer none) := pw_cell_below hb hcw
        have hf : w1.frozen? ⟨w.heap.size + 1, 0, none⟩ = false := (hb.frozen (p := ⟨w.heap.size + 1, 0, none⟩) (by have := HSZ.out; simp only; omega)).trans hfw
        have HH := Lib.hid hh
        have HB := Lib.hid hb
        have HR := Lib.hid hRI
        clear hh hb hRI
        go_wp2
        refine bodyPost_ret (v := .agg #[.pointer (some ⟨b, 0, none⟩)]) (by simp [results, Tryd.results37, go_sem, hc]) rfl ?_
        exact NewList.stored (W := wr) (by simp) (by have := HSZ.out; omega) HBWR.out HHW.out (by decide) (by decide) HH.out HB.out HR.out
end Go.Proofs.YtkefdfnlnkeigaaDoor

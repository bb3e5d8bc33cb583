import Derived.Test.YtkefdfnlnkeigaaDoorH
import Derived.Deep.RegionHeld3
import Derived.Deep.DeepCutAuto
import Derived.Deep.RegionLaw
namespace Go.Proofs.YtkefdfnlnkeigaaDoor
open Go.RowKit Go.Proofs.YtkefdfnlnkeigaaDoorW.PrintWords Go.Proofs.YtkefdfnlnkeigaaDoor.PFnRows

theorem Below.trans' {w X w2 : World} (h : Below w.heap.size w X) (hb : Below X.heap.size X w2) : Below w.heap.size w w2 := h.trans (hb.mono h.size)
theorem blkBelow {w w1 : World} (hb : Below w.heap.size w w1) {k : Nat} {o : Obj} (h : w.heap[k]? = some o) : w1.heap[k]? = some o := (hb.block k (blk_lt h)).trans h
theorem nine_far {W : World} {k b : Nat} {v0 v1 v2 v3 v4 v5 v6 v7 v8 : Value} (h : b ≠ k) : (((((((((W.setCell ⟨k, 0, none⟩ v0).setCell ⟨k, 1, none⟩ v1).setCell ⟨k, 2, none⟩ v2).setCell ⟨k, 3, none⟩ v3).setCell ⟨k, 4, none⟩ v4).setCell ⟨k, 5, none⟩ v5).setCell ⟨k, 6, none⟩ v6).setCell ⟨k, 7, none⟩ v7).setCell ⟨k, 8, none⟩ v8).heap[b]? = W.heap[b]? := by
  iterate 9 rw [Below.heap_setCell _ _ _ _ (by exact h)]
theorem nine_cell {W : World} {k b o : Nat} {v0 v1 v2 v3 v4 v5 v6 v7 v8 x : Value} (h : b ≠ k) (hx : W.cell? ⟨b, o, none⟩ = some x) : (((((((((W.setCell ⟨k, 0, none⟩ v0).setCell ⟨k, 1, none⟩ v1).setCell ⟨k, 2, none⟩ v2).setCell ⟨k, 3, none⟩ v3).setCell ⟨k, 4, none⟩ v4).setCell ⟨k, 5, none⟩ v5).setCell ⟨k, 6, none⟩ v6).setCell ⟨k, 7, none⟩ v7).setCell ⟨k, 8, none⟩ v8).cell? ⟨b, o, none⟩ = some x := by
  unfold World.cell? at hx ⊢
  rw [nine_far h]
  exact hx
theorem nine_blk {W : World} {k : Nat} {v0 v1 v2 v3 v4 v5 v6 v7 v8 : Value} {t : TypeId} {x0 x1 x2 x3 x4 x5 x6 x7 x8 : Value} (h : W.heap[k]? = some (.cells #[x0, x1, x2, x3, x4, x5, x6, x7, x8] t (0, 0))) :
    (((((((((W.setCell ⟨k, 0, none⟩ v0).setCell ⟨k, 1, none⟩ v1).setCell ⟨k, 2, none⟩ v2).setCell ⟨k, 3, none⟩ v3).setCell ⟨k, 4, none⟩ v4).setCell ⟨k, 5, none⟩ v5).setCell ⟨k, 6, none⟩ v6).setCell ⟨k, 7, none⟩ v7).setCell ⟨k, 8, none⟩ v8).heap[k]? = some (.cells #[v0, v1, v2, v3, v4, v5, v6, v7, v8] t (0, 0)) :=
  by
    have h0 := blk_put (cs' := #[v0, x1, x2, x3, x4, x5, x6, x7, x8]) h 0 v0 rfl
    have h1 := blk_put (cs' := #[v0, v1, x2, x3, x4, x5, x6, x7, x8]) h0 1 v1 rfl
    have h2 := blk_put (cs' := #[v0, v1, v2, x3, x4, x5, x6, x7, x8]) h1 2 v2 rfl
    have h3 := blk_put (cs' := #[v0, v1, v2, v3, x4, x5, x6, x7, x8]) h2 3 v3 rfl
    have h4 := blk_put (cs' := #[v0, v1, v2, v3, v4, x5, x6, x7, x8]) h3 4 v4 rfl
    have h5 := blk_put (cs' := #[v0, v1, v2, v3, v4, v5, x6, x7, x8]) h4 5 v5 rfl
    have h6 := blk_put (cs' := #[v0, v1, v2, v3, v4, v5, v6, x7, x8]) h5 6 v6 rfl
    have h7 := blk_put (cs' := #[v0, v1, v2, v3, v4, v5, v6, v7, x8]) h6 7 v7 rfl
    have h8 := blk_put (cs' := #[v0, v1, v2, v3, v4, v5, v6, v7, v8]) h7 8 v8 rfl
    exact h8
theorem nine_below {w0 W : World} {base k : Nat} {v0 v1 v2 v3 v4 v5 v6 v7 v8 : Value} (h : Below base w0 W) (hk : base ≤ k) : Below base w0 (((((((((W.setCell ⟨k, 0, none⟩ v0).setCell ⟨k, 1, none⟩ v1).setCell ⟨k, 2, none⟩ v2).setCell ⟨k, 3, none⟩ v3).setCell ⟨k, 4, none⟩ v4).setCell ⟨k, 5, none⟩ v5).setCell ⟨k, 6, none⟩ v6).setCell ⟨k, 7, none⟩ v7).setCell ⟨k, 8, none⟩ v8) :=
  ((((((((h.setCell hk _).setCell hk _).setCell hk _).setCell hk _).setCell hk _).setCell hk _).setCell hk _).setCell hk _).setCell hk _
theorem nine_R {α : Type} {d : Kd α} {e : Nat} {W : World} {k base : Nat} {v0 v1 v2 v3 v4 v5 v6 v7 v8 : Value} {v : Value} {xs : List α} {cs : Array Value} {t : TypeId} (h : d.R e W base (fun _ => True) v xs) (hk : W.heap[k]? = some (.cells cs t (0, 0))) (ht : ∀ q, q ∈ e :: d.E → q ≠ t) : d.R e (((((((((W.setCell ⟨k, 0, none⟩ v0).setCell ⟨k, 1, none⟩ v1).setCell ⟨k, 2, none⟩ v2).setCell ⟨k, 3, none⟩ v3).setCell ⟨k, 4, none⟩ v4).setCell ⟨k, 5, none⟩ v5).setCell ⟨k, 6, none⟩ v6).setCell ⟨k, 7, none⟩ v7).setCell ⟨k, 8, none⟩ v8) base (fun _ => True) v xs :=
  Kd.R_mono (Kd.R_move (Kd.R_types h hk ht) (fun _ hq => nine_far hq.2)) (fun _ _ => trivial)
theorem one_ne {e t : Nat} (h : e ≠ t) {E : List Nat} (hE : E = []) : ∀ q, q ∈ e :: E → q ≠ t := by
  subst hE
  intro q hq
  exact (List.mem_cons.1 hq).elim (fun e => e ▸ h) (fun h => absurd h List.not_mem_nil)


theorem ta119 (v : Value) (w : World) : (Instr.typeAssert (.iface 100 v) 20 119 true).run Tryd.prog w = .ok (.tuple #[.slice none 0 0, .bool false]) w := by kernel_rfl
theorem ta100 (v : Value) (w : World) : (Instr.typeAssert (.iface 100 v) 20 100 true).run Tryd.prog w = .ok (.tuple #[v, .bool true]) w := by kernel_rfl
theorem ta61 (A : Option Addr) (n c : Nat) (w : World) : (Instr.typeAssert (.iface 61 (.slice A n c)) 20 61 false).run Tryd.prog w = .ok (.slice A n c) w := by kernel_rfl
def kV : Kd Sh := Kd.scalar (fun s => .slice s.1 s.2.1 s.2.2) (fun _ => rfl)
theorem Tryd.info61 : (Tryd.prog.info? 61).map (fun i => (i.zero, i.size, i.bytes)) = some (some (.slice none 0 0), 1, 24) := by kernel_rfl
/-- The headers of the rows, and what they hold. -/
inductive Sr (w : World) : List Sh → List (List S38) → Prop
  | nil : Sr w [] []
  | cons {A : Option Addr} {c : Nat} {xs : List S38} {shs : List Sh} {rows : List (List S38)} : kI.C w A xs.length (xs.map anyOf) → Sr w shs rows → Sr w ((A, xs.length, c) :: shs) (xs :: rows)
theorem Sr.keep {w w' : World} (hb : Below w.heap.size w w') : ∀ {shs : List Sh} {rows : List (List S38)}, Sr w shs rows → Sr w' shs rows
  | _, _, .nil => .nil
  | _, _, .cons h t => .cons (Kd.C_below h hb) (t.keep hb)
abbrev shI (s : Sh) : Iv := some (61, .slice s.1 s.2.1 s.2.2)
theorem Rs.heads {w : World} : ∀ {vs : List Iv} {rows : List (List S38)}, Rs w vs rows → ∃ shs, vs = shs.map shI ∧ Sr w shs rows
  | _, _, .nil => ⟨[], rfl, .nil⟩
  | _, _, .cons (A := A) (c := c) (xs := xs) h t => by
    obtain ⟨shs, e, hs⟩ := t.heads
    exact ⟨(A, xs.length, c) :: shs, by rw [List.map_cons, e], .cons h hs⟩
theorem Sr.len {w : World} : ∀ {shs : List Sh} {rows : List (List S38)}, Sr w shs rows → shs.length = rows.length
  | _, _, .nil => rfl
  | _, _, .cons _ t => congrArg (· + 1) t.len
def DataPost (w w' : World) (st : St) (e : Ending) : Prop :=
  ∃ (Ao Ac Av : Option Addr) (co cc cv : Nat) (shs : List Sh), e = .returned (.agg #[.iface 49 (.agg #[]), .slice none 0 0, .string ⟨#[]⟩, .slice Ao 0 co, .string st.tbl, .slice Ac st.cols.length cc, .slice Av st.rows.length cv, .slice none 0 0, .pointer none]) ∧ Below w.heap.size w w' ∧
    Kd.string.C w' Ac st.cols.length st.cols ∧ kV.C w' Av st.rows.length shs ∧ Sr w' shs st.rows ∧ st.cols.length ≤ cc

set_option maxRecDepth 100000 in
set_option maxHeartbeats 8000000 in
theorem insertData61 (p : Option Addr) (st : St) (w : World) (hB : Bld w p st) (hcl : st.cols.length ≤ 1000) (hrl : st.rows.length ≤ 1000) (hne : st.rows ≠ []) :
    Calls Tryd.prog 61 #[.agg #[.pointer p]] w fun e w' => DataPost w w' st e := by
  obtain ⟨es, h1, h2, h3, h4, ⟨vs, h5, h6⟩, h7, h8, h9, h10, h11⟩ := hB
  have H1 := Lib.hid h1
  have H2 := Lib.hid h2
  have H3 := Lib.hid h3
  have H4 := Lib.hid h4
  have H5 := Lib.hid h5
  have H6 := Lib.hid h6
  have H7 := Lib.hid h7
  have H8 := Lib.hid h8
  have H9 := Lib.hid h9
  have H10 := Lib.hid h10
  have H11 := Lib.hid h11
  clear h1 h2 h3 h4 h5 h6 h7 h8 h9 h10 h11
  go_enter Tryd.func61, Tryd.ntmps61
  go_upto_region 1 with fail
  obtain ⟨W0, hW⟩ : ∃ W0, W0 = (w.alloc (.cells #[.pointer p] 66)).alloc (.cells #[.nilIface, .slice none 0 0, .string ⟨#[]⟩, .slice none 0 0, .string ⟨#[]⟩, .slice none 0 0, .slice none 0 0, .slice none 0 0, .pointer none] 122) := ⟨_, rfl⟩
  rw [← hW]
  have hsz : W0.heap.size = w.heap.size + 2 := by simp [hW]
  have hBW : Below w.heap.size w W0 := by rw [hW]; go_grown
  have hb0 : W0.heap[w.heap.size]? = some (.cells #[.pointer p] 66 (0, 0)) := by rw [hW]; exact (heap_alloc_old _ _ (by simp)).trans (new_at _ _ _ rfl)
  have hb1 : W0.heap[w.heap.size + 1]? = some (.cells #[.nilIface, .slice none 0 0, .string ⟨#[]⟩, .slice none 0 0, .string ⟨#[]⟩, .slice none 0 0, .slice none 0 0, .slice none 0 0, .pointer none] 122 (0, 0)) := by rw [hW]; exact new_at _ _ _ (by simp)
  have hc0 : W0.cell? ⟨w.heap.size, 0, none⟩ = some (.pointer p) := (blk_cell hb0 0).trans rfl
  clear hW
  have hlt0 : w.heap.size < W0.heap.size := by omega
  have HB0 := Lib.hid hb0
  have HB1 := Lib.hid hb1
  have HBW := Lib.hid hBW
  have HSZ := Lib.hid hsz
  clear hb0 hb1 hBW hsz
  go_cut [3] (fun s3 wx => ∃ (k : Nat) (Ao Ac : Option Addr) (co cc : Nat), s3 = .pointer (some ⟨k, 0, none⟩) ∧ Aside0 (W0.heap.size ≤ k) ∧
    Aside0 (wx.heap[k]? = some (.cells #[.iface 49 (.agg #[]), .slice none 0 0, .string ⟨#[]⟩, .slice Ao 0 co, .string st.tbl, .slice Ac st.cols.length cc, .slice none 0 0, .slice none 0 0, .pointer none] 122 (0, 0))) ∧
    Aside0 (Below W0.heap.size W0 wx) ∧ Aside0 (Kd.string.R 9 wx W0.heap.size (fun _ => True) (.slice Ac st.cols.length cc) st.cols))
  case first =>
    have hC0 : Ch W0 p es := H1.out.keep HBW.out
    have h40 : Has W0 es nColumns (st.cols.map strI) := H4.out.keep HBW.out
    have h2 := H2.out
    have h3 := H3.out
    have h7 := H7.out
    have h8 := H8.out
    have h9 := H9.out
    have h10 := H10.out
    go_region_held3 (fun w' => w'.cell? ⟨w.heap.size, 0, none⟩ = some (.pointer p))
      (first | with_reducible exact hS7 | with_reducible exact hS6 | with_reducible exact hS5 | with_reducible exact hS4 | with_reducible exact hS3 | with_reducible exact hS2 | with_reducible exact hS1 | with_reducible exact (pw_cell_below (below_drew (Below.refl _ _)) hc0) | with_reducible exact (pw_cell_below (below_alloc (Below.refl _ _) _) (by assumption)) | with_reducible exact (pw_cell_below (below_alloc (below_drew (Below.refl _ _)) _) hc0) | (with_reducible refine nine_cell ?_ ?_; (first | omega | (simp; omega)); (first | with_reducible exact hS7 | with_reducible exact (pw_cell_below (below_alloc (Below.refl _ _) _) hS7))) | go_keep)
      (first
      | (with_reducible show Calls _ _ _ _ _
         have hgate := hB6
         refine (sqlizers64 p es nSuffixes _ (hC0.keep (by go_grown)) h10).mono ?_
         rintro e w7 ⟨rfl, hb7⟩
         have hB7 : Below W0.heap.size W0 w7 := Below.trans' (by go_grown : Below W0.heap.size W0 _) hb7
         have hsz7 := hB7.size
         (first | with_reducible have hz := blkBelow hb7 hz | with_reducible have hz := blkBelow hb7 (new_at _ _ _ rfl) | skip)
         have hS7 : w7.cell? ⟨w.heap.size, 0, none⟩ = some (.pointer p) := pw_cell_below hB7 hc0
         have hRc7 := Kd.R_below hRc6 (Below.trans' (by go_grown : Below w6.heap.size w6 _) hb7)
         (first | (have z0 := (blk_cell hz 0).trans (rfl : _ = some (Value.nilIface)); have z1 := (blk_cell hz 1).trans (rfl : _ = some (Value.slice none 0 0)); have z2 := (blk_cell hz 2).trans (rfl : _ = some (Value.string ⟨#[]⟩)); have z3 := (blk_cell hz 3).trans (rfl : _ = some (Value.slice none 0 0)); have z4 := (blk_cell hz 4).trans (rfl : _ = some (Value.string ⟨#[]⟩)); have z5 := (blk_cell hz 5).trans (rfl : _ = some (Value.slice none 0 0)); have z6 := (blk_cell hz 6).trans (rfl : _ = some (Value.slice none 0 0)); have z7 := (blk_cell hz 7).trans (rfl : _ = some (Value.slice none 0 0)); have z8 := (blk_cell hz 8).trans (rfl : _ = some (Value.pointer none)); have f0 := blk_frozen hz 0; have f1 := blk_frozen hz 1; have f2 := blk_frozen hz 2; have f3 := blk_frozen hz 3; have f4 := blk_frozen hz 4; have f5 := blk_frozen hz 5; have f6 := blk_frozen hz 6; have f7 := blk_frozen hz 7; have f8 := blk_frozen hz 8) | skip))
      | (with_reducible show Calls _ _ _ _ _
         have hgate := hB5
         refine (strings66 p es nColumns st.cols _ (hC0.keep (by go_grown)) (h40.keep (by go_grown)) hcl).mono ?_
         rintro e w6 ⟨cv, rfl, hRc, hb6⟩
         have hB6 : Below W0.heap.size W0 w6 := Below.trans' (by go_grown : Below W0.heap.size W0 _) hb6
         have hsz6 := hB6.size
         (first | with_reducible have hz := blkBelow hb6 hz | with_reducible have hz := blkBelow hb6 (new_at _ _ _ rfl) | skip)
         have hS6 : w6.cell? ⟨w.heap.size, 0, none⟩ = some (.pointer p) := pw_cell_below hB6 hc0
         obtain ⟨Ac, cc, rfl, _, _⟩ := Kd.R_reads hRc
         have hRc6 := Kd.R_lower hRc (Below.size (by go_grown : Below W0.heap.size W0 _)))
      | (with_reducible show Calls _ _ _ _ _
         have hgate := hB4
         refine (string65 p es nInto st.tbl _ (hC0.keep (by go_grown)) (.inr h3)).mono ?_
         rintro e w5 ⟨rfl, hb5⟩
         have hB5 : Below W0.heap.size W0 w5 := Below.trans' (by go_grown : Below W0.heap.size W0 _) hb5
         have hsz5 := hB5.size
         (first | with_reducible have hz := blkBelow hb5 hz | with_reducible have hz := blkBelow hb5 (new_at _ _ _ rfl) | skip)
         have hS5 : w5.cell? ⟨w.heap.size, 0, none⟩ = some (.pointer p) := pw_cell_below hB5 hc0)
      | (with_reducible show Calls _ _ _ _ _
         have hgate := hB3
         refine (strings66 p es nOptions [] _ (hC0.keep (by go_grown)) (.inl ⟨h9, rfl⟩) (by simp)).mono ?_
         rintro e w4 ⟨ov, rfl, hRo, hb4⟩
         have hB4 : Below W0.heap.size W0 w4 := Below.trans' (by go_grown : Below W0.heap.size W0 _) hb4
         have hsz4 := hB4.size
         (first | with_reducible have hz := blkBelow hb4 hz | with_reducible have hz := blkBelow hb4 (new_at _ _ _ rfl) | skip)
         have hS4 : w4.cell? ⟨w.heap.size, 0, none⟩ = some (.pointer p) := pw_cell_below hB4 hc0
         obtain ⟨Ao, co, rfl, _, _⟩ := Kd.R_reads hRo)
      | (with_reducible show Calls _ _ _ _ _
         have hgate := hB2
         refine (string65 p es nKeyword ⟨#[]⟩ _ (hC0.keep (by go_grown)) (.inl ⟨h8, rfl⟩)).mono ?_
         rintro e w3 ⟨rfl, hb3⟩
         have hB3 : Below W0.heap.size W0 w3 := Below.trans' (by go_grown : Below W0.heap.size W0 _) hb3
         have hsz3 := hB3.size
         (first | with_reducible have hz := blkBelow hb3 hz | with_reducible have hz := blkBelow hb3 (new_at _ _ _ rfl) | skip)
         have hS3 : w3.cell? ⟨w.heap.size, 0, none⟩ = some (.pointer p) := pw_cell_below hB3 hc0)
      | (with_reducible show Calls _ _ _ _ _
         have hgate := hB1
         refine (sqlizers64 p es nPrefixes _ (hC0.keep (by go_grown)) h7).mono ?_
         rintro e w2 ⟨rfl, hb2⟩
         have hB2 : Below W0.heap.size W0 w2 := Below.trans' (by go_grown : Below W0.heap.size W0 _) hb2
         have hsz2 := hB2.size
         (first | with_reducible have hz := blkBelow hb2 hz | with_reducible have hz := blkBelow hb2 (new_at _ _ _ rfl) | skip)
         have hS2 : w2.cell? ⟨w.heap.size, 0, none⟩ = some (.pointer p) := pw_cell_below hB2 hc0)
      | (with_reducible show Calls _ _ _ _ _
         refine (format63 p es _ (hC0.keep (by go_grown)) h2).mono ?_
         rintro e w1 ⟨rfl, hb1⟩
         have hB1 : Below W0.heap.size W0 w1 := Below.trans' (by go_grown : Below W0.heap.size W0 _) hb1
         have hsz1 := hB1.size
         (first | with_reducible have hz := blkBelow hb1 hz | with_reducible have hz := blkBelow hb1 (new_at _ _ _ rfl) | skip)
         have hS1 : w1.cell? ⟨w.heap.size, 0, none⟩ = some (.pointer p) := pw_cell_below hB1 hc0))
    all_goals (go_wp2_with fail; go_meet)
    all_goals first
      | exact ⟨_, Ao, Ac, co, cc, rfl, ⟨hsz7⟩, ⟨new_at _ _ _ rfl⟩, ⟨by go_grown⟩, ⟨Kd.R_below hRc7 (below_alloc (Below.refl _ _) _)⟩⟩
      | exact ⟨_, Ao, Ac, co, cc, rfl, ⟨by first | omega | (simp; done)⟩, ⟨nine_blk hz⟩, ⟨nine_below hB7 (by first | omega | (simp; done))⟩, ⟨nine_R hRc7 hz (one_ne (by decide) rfl)⟩⟩
  case rest =>
    obtain ⟨k, Ao, Ac, co, cc, rfl, hk, hblk, hbx, hRc⟩ := hcut
    have hbxx := hbx.out
    have hbwx := Below.trans' HBW.out hbxx
    have hCx : Ch wc p es := H1.out.keep hbwx
    have h5x := H5.out
    have h6x := H6.out
    have hc1x : wc.cell? ⟨w.heap.size, 0, none⟩ = some (.pointer p) := pw_cell_below hbxx hc0
    have HBWX := Lib.hid hbwx
    have HCX := Lib.hid hCx
    have HBX := Lib.hid hbxx
    have HRC := Lib.hid hRc.out
    have HBLK := Lib.hid hblk.out
    have HK := Lib.hid hk.out
    clear hbwx hCx hbxx hRc hblk hbx hk
    obtain ⟨shs, hvs, hsr⟩ := h6x.heads
    have hln := hsr.len
    have HSR := Lib.hid hsr
    clear h6x hsr
    have hpos : 0 < st.rows.length := List.length_pos_iff.2 hne
    obtain ⟨lv, hfv, hRv⟩ : ∃ lv, find es nValues = some (some (100, lv)) ∧ RI w lv vs := by
      rcases h5x with ⟨_, h⟩ | h
      · subst h
        have := congrArg List.length hvs
        simp at this
        omega
      · exact h
    clear h5x
    have HLN := Lib.hid hln
    have hshl : shs.length ≤ 1000 := by omega
    clear hln
    subst hvs
    obtain ⟨A, c, rfl, _, hrv⟩ := hRv
    rw [List.length_map] at hrv hfv
    have HRV := Lib.hid hrv
    have HFV := Lib.hid hfv
    have HNE := Lib.hid hne
    clear hrv hfv hne
    go_wp2_with fail
    refine (lookup44 p nValues es _ HCX.out).mono ?_
    rintro e w1 ⟨rfl, hb1⟩
    rw [HFV.out]
    simp only [Option.getD_some, Option.isSome_some, encI]
    have k1 := ta119
    have k2 := ta100
    have k3 := ta61
    have hblk1 := blkBelow hb1 HBLK.out
    have hB01 := Below.trans' HBX.out hb1
    have hRc1 := Kd.R_below HRC.out hb1
    have hklt := blk_lt hblk1
    have HBLK1 := Lib.hid hblk1
    have HB01 := Lib.hid hB01
    have HRC1 := Lib.hid hRc1
    clear hb1 hblk1 hB01 hRc1
    go_wp2
    go_loopg [43] shs.length (fun m i wr => ∃ (j : Nat) (Av : Option Addr) (cv : Nat), i = .int .i64 j ∧ j ≤ shs.length ∧ Aside0 (j + m = shs.length) ∧
      Aside0 (wr.heap[k]? = some (.cells #[.iface 49 (.agg #[]), .slice none 0 0, .string ⟨#[]⟩, .slice Ao 0 co, .string st.tbl, .slice Ac st.cols.length cc, .slice Av j cv, .slice none 0 0, .pointer none] 122 (0, 0))) ∧
      Aside0 (kV.R 61 wr w1.heap.size (fun _ => True) (.slice Av j cv) (shs.take j)) ∧ Aside0 (Below W0.heap.size W0 wr) ∧ Aside0 (w1.heap.size ≤ wr.heap.size) ∧ Aside0 (∀ b, b < w1.heap.size → b ≠ k → wr.heap[b]? = w1.heap[b]?))
    case atStart => exact ⟨0, none, 0, rfl, Nat.zero_le _, ⟨by omega⟩, ⟨HBLK1.out⟩, ⟨Kd.R_nil _ _ _ _ _⟩, ⟨HB01.out⟩, ⟨Nat.le_refl _⟩, ⟨fun _ _ _ => rfl⟩⟩
    case round =>
      obtain ⟨j, Av, cv, rfl, hj, hm, hbk, hRv, hB0, hsw, hoth⟩ := hrel
      by_cases hlt : j < shs.length
      · obtain ⟨ad, y, rfl, hy, hx0⟩ := at_kI HRV.out j hlt
        obtain rfl : shI shs[j] = y := by
          rw [List.getElem?_map, List.getElem?_eq_getElem hlt] at hy
          simpa using hy
        clear hy
        have hsn : shs.take (j + 1) = shs.take j ++ [shs[j]] := List.take_succ_eq_append_getElem hlt
        generalize shs[j] = x at *
        replace hx0 := pw_cell_below (Below.trans' HBW.out hB0.out) hx0
        obtain ⟨xA, xn, xc⟩ := x
        simp only [encI] at hx0
        have hck : wr.cell? ⟨k, 6, none⟩ = some (.slice Av j cv) := (blk_cell hbk.out 6).trans rfl
        have hfk : wr.frozen? ⟨k, 6, none⟩ = false := blk_frozen hbk.out 6
        have HSN := Lib.hid hsn
        have hsww := hsw.out
        clear hsn
        go_wp2_with fail
        have hck2 : (wr.alloc (.cells #[.slice xA xn xc] 61)).cell? ⟨k, 6, none⟩ = some (.slice Av j cv) := pw_cell_below (below_alloc (Below.refl _ _) _) hck
        go_region_law (first
            | (refine Kd.R_append_step kV (w0 := wr) (W := wr.drew) w1.heap.size (by rfl) (.tmp 48) (.tmp 51) 119 61 (.slice none 0 0) 24 rfl Tryd.underlying119 Tryd.info61 rfl Nat.one_pos (by decide) _ (shs.take j) (xA, xn, xc) [.slice xA xn xc] (fun _ => True) (fun _ => False) rfl rfl rfl (fun _ h => h.elim) (fun _ _ => trivial) (Kd.R_drew hRv.out) (by have := hsw.out; go_grown) (by have := hsw.out; simpa using this) (by simp <;> omega) ?_
               intro v3 w3 hR3 hB3 _ _
               have hbk3 := (hB3.block k hklt).trans hbk.out
               have hS3 : w3.cell? ⟨k, 6, none⟩ = some (.slice Av j cv) := (blk_cell hbk3 6).trans rfl
               have hF3 : w3.frozen? ⟨k, 6, none⟩ = false := blk_frozen hbk3 6
               obtain ⟨A3, c3, hv3⟩ := Kd.R_slice hR3
               rw [show (shs.take j ++ [(xA, xn, xc)]).length = j + 1 from by simp <;> omega] at hv3
               subst hv3))
        all_goals
          have hw3 := hB3.size
          have hB03 := hB0.out.trans (hB3.mono HB01.out.size)
          have hbk4 := blk_put hbk3 6 (.slice A3 (j + 1) c3) rfl
          have hR4 := Kd.R_set hR3 hbk3 (one_ne (by decide) rfl) 6 (.slice A3 (j + 1) c3)
          rw [← HSN.out] at hR4
          have hB04 : Below W0.heap.size W0 (w3.setCell ⟨k, 6, none⟩ (.slice A3 (j + 1) c3)) := hB03.setCell HK.out _
          have hot4 : ∀ b, b < w1.heap.size → b ≠ k → (w3.setCell ⟨k, 6, none⟩ (.slice A3 (j + 1) c3)).heap[b]? = w1.heap[b]? := fun b hb hn => (Below.heap_setCell _ _ _ _ hn).trans ((hB3.block b hb).trans (hoth.out b hb hn))
          have hs4 : w1.heap.size ≤ (w3.setCell ⟨k, 6, none⟩ (.slice A3 (j + 1) c3)).heap.size := by simp; omega
          have HBK4 := Lib.hid hbk4
          have HR4 := Lib.hid hR4
          have HB04 := Lib.hid hB04
          have HOT4 := Lib.hid hot4
          have HS4 := Lib.hid hs4
          have hmm := hm.out
          clear hbk4 hR4 hB04 hot4 hs4 hR3 hB3 hbk3 hbk hRv hB0 hoth hsw hS3 hF3 hck hck2 hfk hx0 hB03
          go_wp2
          go_roundg (gk - 1)
          case measure => omega
          case rel => exact ⟨j + 1, A3, c3, by go_num, by omega, ⟨by omega⟩, ⟨HBK4.out⟩, ⟨HR4.out⟩, ⟨HB04.out⟩, ⟨HS4.out⟩, ⟨HOT4.out⟩⟩
      · obtain rfl : j = shs.length := by omega
        have hwr := Below.trans' HBW.out hB0.out
        have hc1r : wr.cell? ⟨w.heap.size, 0, none⟩ = some (.pointer p) := pw_cell_below hB0.out hc0
        go_wp2_with fail
        refine (lookup44 p nSelect es _ (H1.out.keep hwr)).mono ?_
        rintro e w2 ⟨rfl, hb2⟩
        rw [H11.out]
        simp only [Option.getD_none, Option.isSome_none, encI]
        have hbk2 := blkBelow hb2 hbk.out
        have hB02 := Below.trans' hB0.out hb2
        have hb12 := blkBelow hB02 HB1.out
        have z0 : w2.cell? ⟨k, 0, none⟩ = some (.iface 49 (.agg #[])) := (blk_cell hbk2 0).trans rfl
        have z1 : w2.cell? ⟨k, 1, none⟩ = some (.slice none 0 0) := (blk_cell hbk2 1).trans rfl
        have z2 : w2.cell? ⟨k, 2, none⟩ = some (.string ⟨#[]⟩) := (blk_cell hbk2 2).trans rfl
        have z3 : w2.cell? ⟨k, 3, none⟩ = some (.slice Ao 0 co) := (blk_cell hbk2 3).trans rfl
        have z4 : w2.cell? ⟨k, 4, none⟩ = some (.string st.tbl) := (blk_cell hbk2 4).trans rfl
        have z5 : w2.cell? ⟨k, 5, none⟩ = some (.slice Ac st.cols.length cc) := (blk_cell hbk2 5).trans rfl
        have z6 : w2.cell? ⟨k, 6, none⟩ = some (.slice Av shs.length cv) := (blk_cell hbk2 6).trans rfl
        have z7 : w2.cell? ⟨k, 7, none⟩ = some (.slice none 0 0) := (blk_cell hbk2 7).trans rfl
        have z8 : w2.cell? ⟨k, 8, none⟩ = some (.pointer none) := (blk_cell hbk2 8).trans rfl
        have y0 : w2.cell? ⟨w.heap.size + 1, 0, none⟩ = some (.nilIface) := (blk_cell hb12 0).trans rfl
        have f0 := blk_frozen hb12 0
        have y1 : w2.cell? ⟨w.heap.size + 1, 1, none⟩ = some (.slice none 0 0) := (blk_cell hb12 1).trans rfl
        have f1 := blk_frozen hb12 1
        have y2 : w2.cell? ⟨w.heap.size + 1, 2, none⟩ = some (.string ⟨#[]⟩) := (blk_cell hb12 2).trans rfl
        have f2 := blk_frozen hb12 2
        have y3 : w2.cell? ⟨w.heap.size + 1, 3, none⟩ = some (.slice none 0 0) := (blk_cell hb12 3).trans rfl
        have f3 := blk_frozen hb12 3
        have y4 : w2.cell? ⟨w.heap.size + 1, 4, none⟩ = some (.string ⟨#[]⟩) := (blk_cell hb12 4).trans rfl
        have f4 := blk_frozen hb12 4
        have y5 : w2.cell? ⟨w.heap.size + 1, 5, none⟩ = some (.slice none 0 0) := (blk_cell hb12 5).trans rfl
        have f5 := blk_frozen hb12 5
        have y6 : w2.cell? ⟨w.heap.size + 1, 6, none⟩ = some (.slice none 0 0) := (blk_cell hb12 6).trans rfl
        have f6 := blk_frozen hb12 6
        have y7 : w2.cell? ⟨w.heap.size + 1, 7, none⟩ = some (.slice none 0 0) := (blk_cell hb12 7).trans rfl
        have f7 := blk_frozen hb12 7
        have y8 : w2.cell? ⟨w.heap.size + 1, 8, none⟩ = some (.pointer none) := (blk_cell hb12 8).trans rfl
        have f8 := blk_frozen hb12 8
        have hRv2 := Kd.R_below hRv.out hb2
        have HBK2 := Lib.hid hbk2
        have HB02 := Lib.hid hB02
        have HB12 := Lib.hid hb12
        have HRV2 := Lib.hid hRv2
        have HB2' := Lib.hid hb2
        have HOTH := Lib.hid hoth
        have HSW := Lib.hid hsw
        clear hbk2 hB02 hb12 hRv2 hb2 hbk hRv hoth hwr hB0 hsw
        go_wp2
        refine bodyPost_ret (v := .agg #[.iface 49 (.agg #[]), .slice none 0 0, .string ⟨#[]⟩, .slice Ao 0 co, .string st.tbl, .slice Ac st.cols.length cc, .slice Av shs.length cv, .slice none 0 0, .pointer none]) ?_ rfl ?_
        · simp [results, Tryd.results61, go_sem, y0, y1, y2, y3, y4, y5, y6, y7, y8]
        · have hbw := Below.trans' HBW.out HB02.out
          have hbf := nine_below (k := w.heap.size + 1) (v0 := .iface 49 (.agg #[])) (v1 := .slice none 0 0) (v2 := .string ⟨#[]⟩) (v3 := .slice Ao 0 co) (v4 := .string st.tbl) (v5 := .slice Ac st.cols.length cc) (v6 := .slice Av shs.length cv) (v7 := .slice none 0 0) (v8 := .pointer none) hbw (by omega)
          have hRc2 : Kd.string.R 9 w2 W0.heap.size (fun _ => True) (.slice Ac st.cols.length cc) st.cols :=
            Kd.R_below (Kd.R_mono (Kd.R_step (Kd.R_types HRC1.out HBLK1.out (one_ne (by decide) rfl)) (fun b hb hlt => HOTH.out.out b hlt hb.2)) (fun _ _ => trivial)) HB2'.out
          have hRv2 := HRV2.out
          rw [List.take_length] at hRv2
          refine ⟨Ao, Ac, Av, co, cc, cv, shs, by rw [HLN.out], hbf, (Kd.R_reads' (nine_R hRc2 HB12.out (one_ne (by decide) rfl))).2.2, ?_, HSR.out.keep hbf, (Kd.R_reads' hRc2).2.1⟩
          rw [← HLN.out]
          exact (Kd.R_reads' (nine_R hRv2 HB12.out (one_ne (by decide) rfl))).2.2
end Go.Proofs.YtkefdfnlnkeigaaDoor

import Derived.Test.YtkefdfnlnkeigaaDoorPFnRowsx
import Derived.WalkKit
import Derived.WalkSpells
import Derived.WalkLawsBesides
import Derived.Handy
import Derived.Outline
import Derived.Lib.Hide
import Derived.Laws.EntriesVeiled
namespace Go.Proofs.YtkefdfnlnkeigaaDoor
open Go.RowKit Go.Proofs.YtkefdfnlnkeigaaDoorW.PrintWords Go.Proofs.YtkefdfnlnkeigaaDoor.PFnRows

/-- An interface value: nil, or a type and a value. -/
abbrev Iv := Option (TypeId × Value)
def encI : Iv → Value
  | none => .nilIface
  | some (t, x) => .iface t x
theorem oneI (x : Iv) : (encI x).oneCell' = true := by cases x <;> rfl
def kI : Kd Iv := Kd.scalar encI oneI
def RI (w : World) (v : Value) (xs : List Iv) : Prop := ∃ A c, v = .slice A xs.length c ∧ xs.length ≤ c ∧ kI.C w A xs.length xs
theorem RI.below {w w' : World} {v : Value} {xs : List Iv} (h : RI w v xs) (hb : Below w.heap.size w w') : RI w' v xs := by
  obtain ⟨A, c, rfl, hl, hc⟩ := h
  exact ⟨A, c, rfl, hl, Kd.C_below hc hb⟩

/-- A builder's chain of entries. -/
inductive Ch (w : World) : Option Addr → List (ByteArray × Iv) → Prop
  | nil : Ch w none []
  | cons {b : Nat} {q : Option Addr} {nm : ByteArray} {v : Iv} {es : List (ByteArray × Iv)} :
      w.heap[b]? = some (.cells #[.string nm, encI v, .bool false, .pointer q] 86 (0, 0)) → Ch w q es → Ch w (some ⟨b, 0, none⟩) ((nm, v) :: es)
theorem Ch.keep {w w' : World} (hb : Below w.heap.size w w') : ∀ {p : Option Addr} {es : List (ByteArray × Iv)}, Ch w p es → Ch w' p es
  | _, _, .nil => .nil
  | _, _, .cons h t => .cons ((hb.block _ (blk_lt h)).trans h) (t.keep hb)

theorem new_at (W : World) (o : Obj) (n : Nat) (h : n = W.heap.size) : (W.alloc o).heap[n]? = some o := h ▸ blk_new W o

def NewEntry (w w' : World) (nm : ByteArray) (v : Iv) (q : Option Addr) (e : Ending) : Prop :=
  ∃ b, e = .returned (.agg #[.pointer (some ⟨b, 0, none⟩)]) ∧ w'.heap[b]? = some (.cells #[.string nm, encI v, .bool false, .pointer q] 86 (0, 0)) ∧ Below w.heap.size w w'
theorem NewEntry.chain {w w' : World} {nm : ByteArray} {v : Iv} {q : Option Addr} {e : Ending} (h : NewEntry w w' nm v q e) {es : List (ByteArray × Iv)} (hc : Ch w q es) :
    ∃ b, e = .returned (.agg #[.pointer (some ⟨b, 0, none⟩)]) ∧ Ch w' (some ⟨b, 0, none⟩) ((nm, v) :: es) ∧ Below w.heap.size w w' := by
  obtain ⟨b, he, hh, hb⟩ := h
  exact ⟨b, he, .cons hh (hc.keep hb), hb⟩

set_option maxHeartbeats 400000 in
theorem zzSet_any (q : Option Addr) (nm : ByteArray) (v : Iv) (w : World) :
    Calls Tryd.prog 21 #[.agg #[.pointer q], .string nm, encI v] w fun e w' => NewEntry w w' nm v q e := by
  rcases v with _ | ⟨t, x⟩
  · show Calls Tryd.prog 21 #[.agg #[.pointer q], .string nm, .nilIface] w _
    go_enter Tryd.func21, Tryd.ntmps21
    go_wp2
    go_returns
    exact ⟨_, rfl, new_at _ _ _ (by simp), (((Below.refl _ _).alloc (Nat.le_refl _) _).alloc (by simp) _).alloc (by simp; omega) _⟩
  · show Calls Tryd.prog 21 #[.agg #[.pointer q], .string nm, .iface t x] w _
    go_enter Tryd.func21, Tryd.ntmps21
    go_wp2
    go_returns
    exact ⟨_, rfl, new_at _ _ _ (by simp), (((Below.refl _ _).alloc (Nat.le_refl _) _).alloc (by simp) _).alloc (by simp; omega) _⟩

def find (es : List (ByteArray × Iv)) (nm : ByteArray) : Option Iv := (es.find? fun x => x.1.toList == nm.toList).map (·.2)




abbrev nPF : ByteArray := ⟨#[80,108,97,99,101,104,111,108,100,101,114,70,111,114,109,97,116]⟩
abbrev nInto : ByteArray := ⟨#[73, 110, 116, 111]⟩

/-- What a wrapper does behind the call of what makes the entry: the builder is stored in the result's own block. -/
theorem NewEntry.stored {w W w1 : World} {nm : ByteArray} {v : Iv} {q : Option Addr} {b k : Nat} (hk : w.heap.size ≤ k) (hkW : k < W.heap.size) (hw : Below w.heap.size w W) {p : Value} {t : TypeId} (ht : W.heap[k]? = some (.cells #[p] t (0, 0))) (h86 : t ≠ 86)
    (hh : w1.heap[b]? = some (.cells #[.string nm, encI v, .bool false, .pointer q] 86 (0, 0))) (hb : Below W.heap.size W w1) :
    NewEntry w (w1.setCell ⟨k, 0, none⟩ (.pointer (some ⟨b, 0, none⟩))) nm v q (.returned (.agg #[.pointer (some ⟨b, 0, none⟩)])) := by
  have hk1 : w1.heap[k]? = some (.cells #[p] t (0, 0)) := (hb.block k hkW).trans ht
  have hne : b ≠ k := blk_ne hh hk1 (Ne.symm h86)
  exact ⟨b, rfl, blk_far hh (p := ⟨k, 0, none⟩) hne _, (hw.trans (hb.mono hw.size)).setCell hk _⟩

set_option maxHeartbeats 400000 in
theorem pf16 (q : Option Addr) (v : Iv) (w : World) :
    Calls Tryd.prog 16 #[.agg #[.pointer q], encI v] w fun e w' => NewEntry w w' nPF v q e := by
  go_enter Tryd.func16, Tryd.ntmps16
  go_wp2_with fail
  refine (zzSet_any q _ v _).mono ?_
  rintro e w1 ⟨b, rfl, hh, hb⟩
  have hs := hb.size
  have hc : w1.cell? ⟨w.heap.size + 1, 0, none⟩ = some (.pointer none) := pw_cell_below hb (by simp)
  have hf : w1.frozen? ⟨w.heap.size + 1, 0, none⟩ = false := (hb.frozen (p := ⟨w.heap.size + 1, 0, none⟩) (by simp)).trans (by simp)
  have hh' := Lib.hid hh
  have hb' := Lib.hid hb
  clear hh hb
  go_wp2
  refine bodyPost_ret (v := .agg #[.pointer (some ⟨b, 0, none⟩)]) (by simp [results, Tryd.results16, go_sem, hc]) rfl ?_
  exact NewEntry.stored (by simp) (by simp) (by go_grown) (new_at _ _ _ (by simp)) (by decide) hh'.out hb'.out

set_option maxHeartbeats 400000 in
theorem pf35 (q : Option Addr) (v : Iv) (w : World) :
    Calls Tryd.prog 35 #[.agg #[.pointer q], encI v] w fun e w' => NewEntry w w' nPF v q e := by
  go_enter Tryd.func35, Tryd.ntmps35
  go_wp2_with fail
  refine (zzSet_any q _ v _).mono ?_
  rintro e w1 ⟨b, rfl, hh, hb⟩
  have hs := hb.size
  have hc : w1.cell? ⟨w.heap.size + 1, 0, none⟩ = some (.pointer none) := pw_cell_below hb (by simp)
  have hf : w1.frozen? ⟨w.heap.size + 1, 0, none⟩ = false := (hb.frozen (p := ⟨w.heap.size + 1, 0, none⟩) (by simp)).trans (by simp)
  have hh' := Lib.hid hh
  have hb' := Lib.hid hb
  clear hh hb
  go_wp2
  refine bodyPost_ret (v := .agg #[.pointer (some ⟨b, 0, none⟩)]) (by simp [results, Tryd.results35, go_sem, hc]) rfl ?_
  exact NewEntry.stored (by simp) (by simp) (by go_grown) (new_at _ _ _ (by simp)) (by decide) hh'.out hb'.out

set_option maxHeartbeats 400000 in
theorem into23 (q : Option Addr) (s : ByteArray) (w : World) :
    Calls Tryd.prog 23 #[.agg #[.pointer q], .string s] w fun e w' => NewEntry w w' nInto (some (9, .string s)) q e := by
  go_enter Tryd.func23, Tryd.ntmps23
  go_wp2_with fail
  refine (zzSet_any q _ (some (9, .string s)) _).mono ?_
  rintro e w1 ⟨b, rfl, hh, hb⟩
  have hs := hb.size
  have hc : w1.cell? ⟨w.heap.size + 1, 0, none⟩ = some (.pointer none) := pw_cell_below hb (by simp)
  have hf : w1.frozen? ⟨w.heap.size + 1, 0, none⟩ = false := (hb.frozen (p := ⟨w.heap.size + 1, 0, none⟩) (by simp)).trans (by simp)
  have hh' := Lib.hid hh
  have hb' := Lib.hid hb
  clear hh hb
  go_wp2
  refine bodyPost_ret (v := .agg #[.pointer (some ⟨b, 0, none⟩)]) (by simp [results, Tryd.results23, go_sem, hc]) rfl ?_
  exact NewEntry.stored (by simp) (by simp) (by go_grown) (new_at _ _ _ (by simp)) (by decide) hh'.out hb'.out

set_option maxHeartbeats 400000 in
theorem ins19 (q : Option Addr) (s : ByteArray) (w : World) :
    Calls Tryd.prog 19 #[.agg #[.pointer q], .string s] w fun e w' => NewEntry w w' nInto (some (9, .string s)) q e := by
  go_enter Tryd.func19, Tryd.ntmps19
  go_wp2_with fail
  refine (into23 q s _).mono ?_
  rintro e w1 ⟨b, rfl, hh, hb⟩
  have hs := hb.size
  have hc : w1.cell? ⟨w.heap.size + 1, 0, none⟩ = some (.pointer none) := pw_cell_below hb (by simp)
  have hf : w1.frozen? ⟨w.heap.size + 1, 0, none⟩ = false := (hb.frozen (p := ⟨w.heap.size + 1, 0, none⟩) (by simp)).trans (by simp)
  have hh' := Lib.hid hh
  have hb' := Lib.hid hb
  clear hh hb
  go_wp2
  refine bodyPost_ret (v := .agg #[.pointer (some ⟨b, 0, none⟩)]) (by simp [results, Tryd.results19, go_sem, hc]) rfl ?_
  exact NewEntry.stored (by simp) (by simp) (by go_grown) (new_at _ _ _ (by simp)) (by decide) hh'.out hb'.out


set_option maxHeartbeats 400000 in
theorem sb18 (w : World) :
    Calls Tryd.prog 18 #[] w fun e w' => NewEntry w w' nPF (some (49, .agg #[])) none e := by
  go_enter Tryd.func18, Tryd.ntmps18
  go_wp2_with fail
  refine (pf35 none (some (49, .agg #[])) _).mono ?_
  rintro e w1 ⟨b, rfl, hh, hb⟩
  have hs := hb.size
  have hc : w1.cell? ⟨w.heap.size, 0, none⟩ = some (.pointer none) := pw_cell_below hb (by simp)
  have hf : w1.frozen? ⟨w.heap.size, 0, none⟩ = false := (hb.frozen (p := ⟨w.heap.size, 0, none⟩) (by simp)).trans (by simp)
  have hh' := Lib.hid hh
  have hb' := Lib.hid hb
  clear hh hb
  go_wp2
  refine bodyPost_ret (v := .agg #[.pointer (some ⟨b, 0, none⟩)]) (by simp [results, Tryd.results18, go_sem, hc]) rfl ?_
  exact NewEntry.stored (by simp) (by simp) (by go_grown) (new_at _ _ _ (by simp)) (by decide) hh'.out hb'.out

/-- squirrel.Insert: the first two entries. -/
def es0 (s : ByteArray) : List (ByteArray × Iv) := [(nInto, some (9, .string s)), (nPF, some (49, .agg #[]))]
def NewChain (w w' : World) (es : List (ByteArray × Iv)) (e : Ending) : Prop :=
  ∃ b, e = .returned (.agg #[.pointer (some ⟨b, 0, none⟩)]) ∧ Ch w' (some ⟨b, 0, none⟩) es ∧ Below w.heap.size w w'

theorem Ch.blk {w : World} {b : Nat} {es : List (ByteArray × Iv)} (h : Ch w (some ⟨b, 0, none⟩) es) : ∃ cs, w.heap[b]? = some (.cells cs 86 (0, 0)) := by
  cases h with
  | cons h _ => exact ⟨_, h⟩
theorem Ch.far {w : World} {k : Nat} {t : TypeId} {cs : Array Value} (hk : w.heap[k]? = some (.cells cs t (0, 0))) (ht : t ≠ 86) (u : Value) : ∀ {p : Option Addr} {es : List (ByteArray × Iv)}, Ch w p es → Ch (w.setCell ⟨k, 0, none⟩ u) p es
  | _, _, .nil => .nil
  | _, _, .cons h tl => .cons (blk_far h (p := ⟨k, 0, none⟩) (blk_ne h hk (Ne.symm ht)) _) (tl.far hk ht u)
theorem NewChain.stored {w W w1 : World} {es : List (ByteArray × Iv)} {b k : Nat} (hk : w.heap.size ≤ k) (hkW : k < W.heap.size) (hw : Below w.heap.size w W) {p : Value} {t : TypeId} (ht : W.heap[k]? = some (.cells #[p] t (0, 0))) (h86 : t ≠ 86)
    (hh : Ch w1 (some ⟨b, 0, none⟩) es) (hb : Below W.heap.size W w1) :
    NewChain w (w1.setCell ⟨k, 0, none⟩ (.pointer (some ⟨b, 0, none⟩))) es (.returned (.agg #[.pointer (some ⟨b, 0, none⟩)])) := by
  have hk1 : w1.heap[k]? = some (.cells #[p] t (0, 0)) := (hb.block k hkW).trans ht
  exact ⟨b, rfl, hh.far hk1 h86 _, (hw.trans (hb.mono hw.size)).setCell hk _⟩

set_option maxHeartbeats 400000 in
theorem insert12 (s : ByteArray) (w : World) :
    Calls Tryd.prog 12 #[.string s] w fun e w' => NewChain w w' (es0 s) e := by
  go_enter Tryd.func12, Tryd.ntmps12
  go_wp2_with fail
  refine (sb18 _).mono ?_
  rintro e w1 ⟨b, rfl, hh, hb⟩
  have hs := hb.size
  have hc : w1.cell? ⟨w.heap.size, 0, none⟩ = some (.pointer none) := pw_cell_below hb (by simp)
  have hf : w1.frozen? ⟨w.heap.size, 0, none⟩ = false := (hb.frozen (p := ⟨w.heap.size, 0, none⟩) (by simp)).trans (by simp)
  have hC : Ch w1 (some ⟨b, 0, none⟩) [(nPF, some (49, .agg #[]))] := .cons hh .nil
  have hC' := Lib.hid hC
  have hb' := Lib.hid hb
  clear hh hb hC
  go_wp2_with fail
  refine (ins19 _ s _).mono ?_
  intro e w2 h2
  obtain ⟨b2, rfl, hC2, hb2⟩ := h2.chain hC'.out
  have hs2 := hb2.size
  have hc2 : w2.cell? ⟨w.heap.size, 0, none⟩ = some (.pointer none) := pw_cell_below hb2 hc
  have hf2 : w2.frozen? ⟨w.heap.size, 0, none⟩ = false := (hb2.frozen (p := ⟨w.heap.size, 0, none⟩) (by simp at hs; exact hs)).trans hf
  have hb12 := Lib.hid (hb'.out.trans (hb2.mono hs))
  have hC2' := Lib.hid hC2
  clear hC2 hb2 h2 hb' hC' hc hf
  go_wp2
  refine bodyPost_ret (v := .agg #[.pointer (some ⟨b2, 0, none⟩)]) (by simp [results, Tryd.results12, go_sem, hc2]) rfl ?_
  exact NewChain.stored (by simp) (by simp) (by go_grown) (new_at _ _ _ (by simp)) (by decide) hC2'.out hb12.out

/-! ### goOf, valueOf -/
def anyOf (x : S38) : Iv :=
  if x.f0 = 1 then some (2, .int .i64 x.f1) else if x.f0 = 2 then some (9, .string x.f2) else if x.f0 = 3 then some (4, .bool true) else if x.f0 = 4 then some (4, .bool false) else none

set_option maxHeartbeats 400000 in
theorem goOf38 (x : S38) (A : Option Addr) (n c : Nat) (h0 : 0 ≤ x.f0) (h4 : x.f0 ≤ 4) (w : World) :
    Calls Tryd.prog 38 #[.agg #[.int .i64 x.f0, .int .i64 x.f1, .string x.f2, .slice A n c], .int .i64 0] w fun e w' => e = .returned (.tuple #[encI (anyOf x), .bool true]) ∧ Below w.heap.size w w' := by
  obtain ⟨f0, f1, f2, f3⟩ := x
  simp only at h0 h4 ⊢
  have hcases : f0 = 0 ∨ f0 = 1 ∨ f0 = 2 ∨ f0 = 3 ∨ f0 = 4 := by omega
  rcases hcases with rfl | rfl | rfl | rfl | rfl
  all_goals
    clear h0 h4
    go_enter Tryd.func38, Tryd.ntmps38
    go_wp2
    go_returns
    exact ⟨rfl, by go_grown⟩

end Go.Proofs.YtkefdfnlnkeigaaDoor

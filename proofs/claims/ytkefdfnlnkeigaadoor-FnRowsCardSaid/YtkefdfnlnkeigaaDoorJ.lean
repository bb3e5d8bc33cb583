import Derived.Test.YtkefdfnlnkeigaaDoorI
import Derived.Test.YtkefdfnlnkeigaaDoorShelf
namespace Go.Proofs.YtkefdfnlnkeigaaDoor
open Go.RowKit Go.Proofs.YtkefdfnlnkeigaaDoorW.PrintWords Go.Proofs.YtkefdfnlnkeigaaDoor.PFnRows

def Buf (b : Nat) (T : List UInt8) (w : World) : Prop := Lib.IsBuffer 135 5 b b (Lib.byteCells T) w
theorem write69 (b : Nat) (T : List UInt8) (s : ByteArray) (w : World) (h : Buf b T w) (hl : T.length ≤ 1000000000000) (hs : s.size ≤ 1000000000000) :
    Calls Tryd.prog 69 #[.pointer (some ⟨b, 0, none⟩), .string s] w fun e w' => e = .returned (.tuple #[.int .i64 s.size, .nilIface]) ∧ Buf b (T ++ s.data.toList) w' ∧ Below b w w' ∧ Lib.OthersKept 5 (some b) w w' := by
  refine (Tryd.Buffer_WriteString_k b b (Lib.byteCells T) s w h (Nat.le_of_lt (Lib.IsBuffer.lt h)) (Lib.byteCells_one T) (by simp [Lib.byteCells]; omega)).mono ?_
  rintro e w' ⟨h1, h2, h3, h4⟩
  exact ⟨h1, by unfold Buf; rw [Lib.byteCells_append]; exact h2, h3, h4⟩
theorem taw (v : Value) (w : World) : (Instr.typeAssert (.iface 130 v) 149 160 true).run Tryd.prog w = .ok (.tuple #[.iface 130 v, .bool true]) w := by kernel_rfl

set_option maxRecDepth 100000 in
set_option maxHeartbeats 1000000 in
theorem ioWrite79 (b : Nat) (T : List UInt8) (s : ByteArray) (w : World) (h : Buf b T w) (hl : T.length ≤ 1000000000000) (hs : s.size ≤ 1000000000000) :
    Calls Tryd.prog 79 #[.iface 130 (.pointer (some ⟨b, 0, none⟩)), .string s] w fun e w' => e = .returned (.tuple #[.int .i64 s.size, .nilIface]) ∧ Buf b (T ++ s.data.toList) w' ∧ Below b w w' ∧ Lib.OthersKept 5 (some b) w w' := by
  have k1 := taw
  go_enter Tryd.func79, Tryd.ntmps79
  go_wp2_with fail
  refine (write69 b T s _ h hl hs).mono ?_
  rintro e w1 ⟨rfl, h1, h2, h3⟩
  have H1 := Lib.hid h1
  have H2 := Lib.hid h2
  have H3 := Lib.hid h3
  clear h1 h2 h3
  go_wp2
  go_returns
  exact ⟨rfl, H1.out, H2.out, H3.out⟩

set_option maxRecDepth 100000 in
set_option maxHeartbeats 1000000 in
theorem replace88 (s : ByteArray) (w : World) :
    Calls Tryd.prog 88 #[.agg #[], .string s] w fun e w' => e = .returned (.tuple #[.string s, .nilIface]) ∧ Below w.heap.size w w' := by
  go_enter Tryd.func88, Tryd.ntmps88
  go_wp2
  go_returns
  exact ⟨rfl, by go_grown⟩

/-! ### Blocks that are not of a type stay -/
theorem kept_R {α : Type} {d : Kd α} {e t base : Nat} {w w' : World} {bo : Option Nat} {v : Value} {xs : List α} (h : d.R e w base (fun _ => True) v xs) (hk : Lib.OthersKept t bo w w') (ht : ∀ q, q ∈ e :: d.E → q ≠ t)
    (hbo : ∀ b, bo = some b → ∃ cs tb, w.heap[b]? = some (.cells cs tb (0, 0)) ∧ ∀ q, q ∈ e :: d.E → q ≠ tb) : d.R e w' base (fun _ => True) v xs := by
  refine Kd.R_mono (Kd.R_move (Kd.R_bound h) ?_) (fun _ _ => trivial)
  rintro k ⟨_, _, hlt, q, hq, cells, hc⟩
  refine (hk k _ hc ?_ ?_).trans hc.symm
  · rintro rfl
    obtain ⟨cs, tb, h1, h2⟩ := hbo k rfl
    rw [hc] at h1
    injection h1 with h1
    injection h1 with _ h1
    exact h2 q hq h1
  · intro c fz he
    injection he with _ he
    exact ht q hq he
theorem kept_set {w : World} {g t : Nat} {cs : Array Value} (h : w.heap[g]? = some (.cells cs t (0, 0))) (i : Nat) (u : Value) : Lib.OthersKept t none w (w.setCell ⟨g, i, none⟩ u) := by
  intro k o hk _ ho
  have : k ≠ g := by
    rintro rfl
    rw [h] at hk
    injection hk with hk
    exact ho _ _ hk.symm
  exact (Below.heap_setCell _ _ _ _ this).trans hk
theorem kept_grown {w w' : World} {t : Nat} {row : Option Nat} (h : w.grownBy w' row) (hr : ∀ k, row = some k → ∃ cs, w.heap[k]? = some (.cells cs t (0, 0))) : Lib.OthersKept t none w w' := by
  intro k o hk _ ho
  refine (h.block k (blk_lt hk) ?_).trans hk
  rintro e
  obtain ⟨cs, hc⟩ := hr k e.symm
  rw [hk] at hc
  injection hc with hc
  exact ho _ _ hc
theorem kept_below {w w' : World} (h : Below w.heap.size w w') (t : Nat) : Lib.OthersKept t none w w' := fun k _ hk _ _ => (h.block k (blk_lt hk)).trans hk
theorem kept_own {w w' : World} {t : Nat} (h : Lib.OthersKept t none w w') {e : Nat} (hne : e ≠ t) {k : Nat} {cs : Array Value} (hk : w.heap[k]? = some (.cells cs e (0, 0))) : w'.heap[k]? = some (.cells cs e (0, 0)) :=
  h k _ hk (by simp) (fun c fz he => by injection he with _ he; exact hne he)
theorem Buf.kept {b : Nat} {T : List UInt8} {w w' : World} {t : Nat} (h : Buf b T w) (hk : Lib.OthersKept t none w w') (h1 : 135 ≠ t) (h2 : 5 ≠ t) : Buf b T w' := by
  obtain ⟨hB, v, lr, hb, ho, hn⟩ := h
  refine ⟨hB, v, lr, kept_own hk h1 hb, ?_, hn⟩
  obtain ⟨hl, ho⟩ := ho
  refine ⟨hl, ?_⟩
  rcases ho with ho | ⟨g, cap, cur, e1, e2, e3, e4⟩
  · exact .inl ho
  · exact .inr ⟨g, cap, cur, e1, e2, kept_own hk h2 e3, e4⟩
theorem Buf.blk {b : Nat} {T : List UInt8} {w : World} (h : Buf b T w) : ∃ cs, w.heap[b]? = some (.cells cs 135 (0, 0)) := by
  obtain ⟨_, v, lr, hb, _⟩ := h
  exact ⟨_, hb⟩

end Go.Proofs.YtkefdfnlnkeigaaDoor

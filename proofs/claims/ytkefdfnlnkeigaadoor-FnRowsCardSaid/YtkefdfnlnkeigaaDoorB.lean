import Derived.Test.YtkefdfnlnkeigaaDoorA
namespace Go.Proofs.YtkefdfnlnkeigaaDoor
open Go.RowKit Go.Proofs.YtkefdfnlnkeigaaDoorW.PrintWords Go.Proofs.YtkefdfnlnkeigaaDoor.PFnRows


/-! ### Assertions: closed facts -/
theorem ta22 (v : Value) (w : World) : (Instr.typeAssert (.iface 2 v) 20 2 true).run Tryd.prog w = .ok (.tuple #[v, .bool true]) w := by kernel_rfl
theorem ta92 (v : Value) (w : World) : (Instr.typeAssert (.iface 9 v) 20 2 true).run Tryd.prog w = .ok (.tuple #[.int .i64 0, .bool false]) w := by kernel_rfl
theorem ta42 (v : Value) (w : World) : (Instr.typeAssert (.iface 4 v) 20 2 true).run Tryd.prog w = .ok (.tuple #[.int .i64 0, .bool false]) w := by kernel_rfl
theorem ta99 (v : Value) (w : World) : (Instr.typeAssert (.iface 9 v) 20 9 true).run Tryd.prog w = .ok (.tuple #[v, .bool true]) w := by kernel_rfl
theorem ta49 (v : Value) (w : World) : (Instr.typeAssert (.iface 4 v) 20 9 true).run Tryd.prog w = .ok (.tuple #[.string ⟨#[]⟩, .bool false]) w := by kernel_rfl
theorem ta44 (v : Value) (w : World) : (Instr.typeAssert (.iface 4 v) 20 4 true).run Tryd.prog w = .ok (.tuple #[v, .bool true]) w := by kernel_rfl

def Plain (x : S38) : Prop :=
  x.f3 = [] ∧ 0 ≤ x.f0 ∧ x.f0 ≤ 4 ∧ (x.f0 ≠ 1 → x.f1 = 0) ∧ (x.f0 ≠ 2 → x.f2 = ⟨#[]⟩)

set_option maxRecDepth 100000 in
set_option maxHeartbeats 400000 in
theorem valueOf42 (x : S38) (hp : Plain x) (w : World) :
    Calls Tryd.prog 42 #[encI (anyOf x)] w fun e w' => e = .returned (.agg #[.int .i64 x.f0, .int .i64 x.f1, .string x.f2, .slice none 0 0]) ∧ Below w.heap.size w w' := by
  obtain ⟨f0, f1, f2, f3⟩ := x
  obtain ⟨h3, h0, h4, h1, h2⟩ := hp
  simp only at h3 h0 h4 h1 h2 ⊢
  subst h3
  have hcases : f0 = 0 ∨ f0 = 1 ∨ f0 = 2 ∨ f0 = 3 ∨ f0 = 4 := by omega
  rcases hcases with rfl | rfl | rfl | rfl | rfl
  · obtain rfl := h1 (by decide)
    obtain rfl := h2 (by decide)
    clear h0 h4 h1 h2
    show Calls Tryd.prog 42 #[.nilIface] w _
    go_enter Tryd.func42, Tryd.ntmps42
    go_wp2
    go_returns
    exact ⟨rfl, by go_grown⟩
  · obtain rfl := h2 (by decide)
    clear h0 h4 h1 h2
    show Calls Tryd.prog 42 #[.iface 2 (.int .i64 f1)] w _
    have k1 := ta22
    have k2 := ta92
    have k3 := ta42
    have k4 := ta99
    have k5 := ta49
    have k6 := ta44
    go_enter Tryd.func42, Tryd.ntmps42
    go_wp2
    go_returns
    exact ⟨rfl, by go_grown⟩
  · obtain rfl := h1 (by decide)
    clear h0 h4 h1 h2
    show Calls Tryd.prog 42 #[.iface 9 (.string f2)] w _
    have k1 := ta22
    have k2 := ta92
    have k3 := ta42
    have k4 := ta99
    have k5 := ta49
    have k6 := ta44
    go_enter Tryd.func42, Tryd.ntmps42
    go_wp2
    go_returns
    exact ⟨rfl, by go_grown⟩
  · obtain rfl := h1 (by decide)
    obtain rfl := h2 (by decide)
    clear h0 h4 h1 h2
    show Calls Tryd.prog 42 #[.iface 4 (.bool true)] w _
    have k1 := ta22
    have k2 := ta92
    have k3 := ta42
    have k4 := ta99
    have k5 := ta49
    have k6 := ta44
    go_enter Tryd.func42, Tryd.ntmps42
    go_wp2
    go_returns
    exact ⟨rfl, by go_grown⟩
  · obtain rfl := h1 (by decide)
    obtain rfl := h2 (by decide)
    clear h0 h4 h1 h2
    show Calls Tryd.prog 42 #[.iface 4 (.bool false)] w _
    have k1 := ta22
    have k2 := ta92
    have k3 := ta42
    have k4 := ta99
    have k5 := ta49
    have k6 := ta44
    go_enter Tryd.func42, Tryd.ntmps42
    go_wp2
    go_returns
    exact ⟨rfl, by go_grown⟩

/-! ### zzLookup -/
theorem find_cons (nm1 nm : ByteArray) (v : Iv) (es : List (ByteArray × Iv)) : find ((nm1, v) :: es) nm = if (nm1.toList == nm.toList) = true then some v else find es nm := by
  unfold find
  rw [List.find?_cons]
  cases h : (nm1.toList == nm.toList) <;> simp

set_option maxRecDepth 100000 in
set_option maxHeartbeats 1000000 in
theorem lookup44 (p : Option Addr) (nm : ByteArray) (es : List (ByteArray × Iv)) (w : World) (hC : Ch w p es) :
    Calls Tryd.prog 44 #[.agg #[.pointer p], .string nm] w fun e w' => e = .returned (.tuple #[encI ((find es nm).getD none), .bool (find es nm).isSome]) ∧ Below w.heap.size w w' := by
  have HC := Lib.hid hC
  clear hC
  go_enter Tryd.func44, Tryd.ntmps44
  go_wp2
  go_loopg [6] es.length (fun k v wr => ∃ q es', v = .pointer q ∧ Aside0 (Ch wr q es') ∧ Aside0 (es'.length ≤ k) ∧ Aside0 (find es nm = find es' nm) ∧ Aside0 (Below w.heap.size w wr))
  case atStart => exact ⟨p, es, rfl, ⟨HC.out.keep (by go_grown)⟩, ⟨Nat.le_refl _⟩, ⟨rfl⟩, ⟨by go_grown⟩⟩
  case round =>
    obtain ⟨q, es', rfl, hc, hk, hf, hb⟩ := hrel
    obtain ⟨hc⟩ := hc
    cases hc with
    | nil =>
      go_wp2
      go_returns
      exact ⟨by rw [hf.out]; rfl, hb.out⟩
    | @cons b q' nm1 v es1 h tl =>
      have h0 : wr.cell? ⟨b, 0, none⟩ = some (.string nm1) := (blk_cell h 0).trans rfl
      have h1 : wr.cell? ⟨b, 1, none⟩ = some (encI v) := (blk_cell h 1).trans rfl
      have h2 : wr.cell? ⟨b, 2, none⟩ = some (.bool false) := (blk_cell h 2).trans rfl
      have h3 : wr.cell? ⟨b, 3, none⟩ = some (.pointer q') := (blk_cell h 3).trans rfl
      clear h
      have htl := Lib.hid tl
      clear tl
      have hfc := find_cons nm1 nm v es1
      cases heq : (nm1.toList == nm.toList) with
      | true =>
        rw [heq, if_pos rfl] at hfc
        have hff := Lib.hid (hf.out.trans hfc)
        clear hf hfc
        go_wp2
        go_quiet (fail)
        go_wp2
        go_returns
        exact ⟨by rw [hff.out]; rfl, pw_below_drewN hb.out nq⟩
      | false =>
        rw [heq, if_neg (by simp)] at hfc
        have hff := Lib.hid (hf.out.trans hfc)
        clear hf hfc
        go_wp2
        go_roundg (gk - 1)
        case rel => exact ⟨q', es1, rfl, ⟨htl.out⟩, ⟨by have := hk.out; simp at this; omega⟩, ⟨hff.out⟩, hb⟩
        case measure => have := hk.out; simp at this; omega
end Go.Proofs.YtkefdfnlnkeigaaDoor

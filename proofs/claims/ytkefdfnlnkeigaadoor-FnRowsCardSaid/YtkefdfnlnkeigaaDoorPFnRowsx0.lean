-- PRINTED BY print.sh 35421559b90ae4d0a3588c463048766b98c2df88dd9212a6774a882060cdf62d: not written by this session
import Derived.Test.YtkefdfnlnkeigaaDoorProg
import Derived.Below
import Derived.Deep.Draws
import Derived.Deep.AppendLies
import Derived.Maps.AppendAt
import Derived.OwnWalk
import Derived.Laws.BytesArg
import Derived.Laws.MakeOwn
import Derived.Laws.OwnMore
import Derived.Deep.OwnRows
import Derived.Tactics
import Derived.Lib.ConvBytes
import Derived.Laws.Slices
import Derived.WalkKit
import Derived.KernelRfl
import Derived.RowKit3
import Derived.Deep.LoopGhost
import Derived.Deep.QuietTactic
import Derived.BigQuiet
import Derived.WideLaws
import Derived.Deep.DeepCutAuto
import Derived.Deep.CutBlock
import Derived.Deep.RegionHeld3
import Derived.Laws.Rows
import Derived.Lib.AppendStr
import Derived.ArgAppend
import Derived.Laws.IdiomCopy
import Derived.OrdersHeld
import Derived.Laws.BitsLemmas
import Derived.RowKit
import Derived.Test.YtkefdfnlnkeigaaDoorWWords
import Derived.Test.YtkefdfnlnkeigaaDoorWLast
import Derived.Test.YtkefdfnlnkeigaaDoorWTab
import Derived.Test.YtkefdfnlnkeigaaDoorWFour
import Derived.Test.YtkefdfnlnkeigaaDoorWQPut
import Derived.Test.YtkefdfnlnkeigaaDoorWApart
import Derived.Test.YtkefdfnlnkeigaaDoorWArr
import Derived.Test.YtkefdfnlnkeigaaDoorWZeros
import Derived.Test.YtkefdfnlnkeigaaDoorWFoot
import Derived.Test.YtkefdfnlnkeigaaDoorWKept
import Derived.Test.YtkefdfnlnkeigaaDoorWShare
import Derived.Test.YtkefdfnlnkeigaaDoorWN
import Derived.Test.YtkefdfnlnkeigaaDoorWFootNe
import Derived.Test.YtkefdfnlnkeigaaDoorWAt
import Derived.Test.YtkefdfnlnkeigaaDoorWEqStruct
import Derived.Test.YtkefdfnlnkeigaaDoorWRepsOne
import Derived.Test.YtkefdfnlnkeigaaDoorWInv
import Derived.Test.YtkefdfnlnkeigaaDoorWInvWords
import Derived.Test.YtkefdfnlnkeigaaDoorWGuard
import Derived.Test.YtkefdfnlnkeigaaDoorWNEv
import Derived.Test.YtkefdfnlnkeigaaDoorWMore
namespace Go.Proofs.YtkefdfnlnkeigaaDoor.PFnRows
open Go.RowKit Go.Proofs.YtkefdfnlnkeigaaDoorW.PrintWords Go.Proofs.YtkefdfnlnkeigaaDoorW.PrintLast Go.Proofs.YtkefdfnlnkeigaaDoorW.PrintMore
attribute [local go_sem] max2_int min2_int max_two min_two max_three min_three max_four min_four   -- for this text's walks alone
set_option linter.unusedVariables false
set_option linter.unusedSimpArgs false



def errW : Option Int → Value
  | none => .nilIface
  | some c => .iface 0 (.int .i64 c)
theorem errW_none : errW none = .nilIface := rfl
theorem errW_some (c : Int) : errW (some c) = .iface 0 (.int .i64 c) := rfl

-- the values' own types
/-! #### struct type 38, nested in itself -/
structure S38 where
  f0 : Int
  f1 : Int
  f2 : ByteArray
  f3 : (List S38)
def z38 : S38 := ⟨(0 : Int), (0 : Int), (⟨#[]⟩ : ByteArray), ([] : List S38)⟩
def F38 (d : Kd S38) : Kd S38 := Kd.iso (Kd.pair (Kd.int .i64) (Kd.pair (Kd.int .i64) (Kd.pair Kd.string (Kd.slice 38 d)))) (fun x : S38 => (x.f0, x.f1, x.f2, x.f3))
theorem mono38 : Kd.Mono F38 := Kd.mono_iso _ (Kd.mono_pair (Kd.mono_const _) (Kd.mono_pair (Kd.mono_const _) (Kd.mono_pair (Kd.mono_const _) (Kd.mono_slice 38 Kd.mono_id))))
theorem sub38 : Kd.Sub F38 [38] := Kd.sub_iso _ (Kd.sub_pair (Kd.sub_const _ (by decide)) (Kd.sub_pair (Kd.sub_const _ (by decide)) (Kd.sub_pair (Kd.sub_const _ (by decide)) (Kd.sub_slice 38 (by decide) Kd.sub_id))))
theorem sz38 : ∀ n, (Kd.upto F38 4 [38] n).sz = 4 := Kd.upto_sz (fun _ => rfl)
def k38 : Kd S38 := Kd.fix F38 4 [38] sz38 (Kd.upto_E sub38)
theorem k38_open {w : World} {x : S38} {cs : List Value} (h : k38.K w x cs) : ∃ A3 c3, cs = [.int .i64 x.f0, .int .i64 x.f1, .string x.f2, .slice A3 x.f3.length c3] ∧ x.f3.length ≤ c3 ∧ k38.C w A3 x.f3.length x.f3 := by
  obtain ⟨n, h⟩ := h
  cases n with
  | zero => exact h.elim
  | succ n =>
    obtain ⟨_, _, rfl, rfl, ⟨_, _, rfl, rfl, ⟨_, _, rfl, rfl, ⟨A3, c3, rfl, l3, g3⟩⟩⟩⟩ := h
    exact ⟨A3, c3, rfl, l3, Kd.fix_C g3⟩
theorem k38_openM {w : World} {base : Nat} {ok : Nat → Prop} {x : S38} {cs : List Value} (h : k38.M w base ok x cs) : ∃ v3, cs = [.int .i64 x.f0, .int .i64 x.f1, .string x.f2, v3] ∧ k38.R 38 w base ok v3 x.f3 := by
  obtain ⟨n, h⟩ := h
  cases n with
  | zero => exact h.elim
  | succ n =>
    obtain ⟨_, _, rfl, rfl, ⟨_, _, rfl, rfl, ⟨_, _, rfl, rfl, ⟨v3, rfl, g3⟩⟩⟩⟩ := h
    exact ⟨v3, rfl, Kd.fix_R g3⟩
theorem k38_mk (w : World) (x : S38) {A3 : Option Addr} {c3 : Nat} (l3 : x.f3.length ≤ c3) (g3 : k38.C w A3 x.f3.length x.f3) : k38.K w x [.int .i64 x.f0, .int .i64 x.f1, .string x.f2, .slice A3 x.f3.length c3] := by
  obtain ⟨n3, q3⟩ := Kd.fix_C_back mono38 g3
  have r3 := Kd.upto_C_le mono38 sz38 (show n3 ≤ n3 by omega) q3
  exact ⟨n3 + 1, ⟨[.int .i64 x.f0], [.int .i64 x.f1, .string x.f2, .slice A3 x.f3.length c3], rfl, rfl, ⟨[.int .i64 x.f1], [.string x.f2, .slice A3 x.f3.length c3], rfl, rfl, ⟨[.string x.f2], [.slice A3 x.f3.length c3], rfl, rfl, ⟨A3, c3, rfl, l3, r3⟩⟩⟩⟩⟩
theorem k38_mkM (w : World) (base : Nat) (ok : Nat → Prop) (x : S38) {v3 : Value} (g3 : k38.R 38 w base ok v3 x.f3) : k38.M w base ok x [.int .i64 x.f0, .int .i64 x.f1, .string x.f2, v3] := by
  obtain ⟨n3, q3⟩ := Kd.fix_R_back mono38 g3
  have r3 := Kd.upto_R_le mono38 sz38 (show n3 ≤ n3 by omega) q3
  exact ⟨n3 + 1, ⟨[.int .i64 x.f0], [.int .i64 x.f1, .string x.f2, v3], rfl, rfl, ⟨[.int .i64 x.f1], [.string x.f2, v3], rfl, rfl, ⟨[.string x.f2], [v3], rfl, rfl, ⟨v3, rfl, r3⟩⟩⟩⟩⟩
theorem k38_openF {W : World} {ok : Nat → Prop} {x : S38} {cs : List Value} (h : Kd.FK k38 W ok x cs) : ∃ A3 c3, cs = [.int .i64 x.f0, .int .i64 x.f1, .string x.f2, .slice A3 x.f3.length c3] ∧ x.f3.length ≤ c3 ∧ Kd.F k38 W ok A3 x.f3.length x.f3 := by
  obtain ⟨A3, c3, rfl, l3, _⟩ := k38_open (Kd.FK_now h)
  exact ⟨A3, c3, rfl, l3, (fun W' hW => by obtain ⟨A3_, c3_, he, l3_, g3_⟩ := k38_open (h W' hW); injection (Option.some.inj (show some (Value.slice A3 x.f3.length c3) = some (Value.slice A3_ x.f3.length c3_) from congrArg (fun l => l[3]?) he)) with ha_ _ _; rw [ha_]; exact g3_)⟩
theorem k38_mkF (W : World) (ok : Nat → Prop) (x : S38) {A3 : Option Addr} {c3 : Nat} (l3 : x.f3.length ≤ c3) (g3 : Kd.F k38 W ok A3 x.f3.length x.f3) : Kd.FK k38 W ok x [.int .i64 x.f0, .int .i64 x.f1, .string x.f2, .slice A3 x.f3.length c3] := fun W2 hW => k38_mk W2 x l3 (g3 W2 hW)
def rd_T38 (xs : List S38) (i : Int) : S38 := xs.getD i.toNat z38
theorem at_T38 {w : World} {A : Option Addr} {n : Nat} {xs : List S38} (h : Kd.C k38 w A n xs) (i : Int) (h0 : 0 ≤ i) (h1 : i < n) : ∃ ad A3 c3, A = some ad ∧ w.cell? (ad.add (i.toNat * 4)) = some (.int .i64 (rd_T38 xs i).f0) ∧ w.cell? ⟨(ad.add (i.toNat * 4)).block, (ad.add (i.toNat * 4)).off + 1, none⟩ = some (.int .i64 (rd_T38 xs i).f1) ∧ w.cell? ⟨(ad.add (i.toNat * 4)).block, (ad.add (i.toNat * 4)).off + 2, none⟩ = some (.string (rd_T38 xs i).f2) ∧ w.cell? ⟨(ad.add (i.toNat * 4)).block, (ad.add (i.toNat * 4)).off + 3, none⟩ = some (.slice A3 (rd_T38 xs i).f3.length c3) ∧ (rd_T38 xs i).f3.length ≤ c3 ∧ k38.C w A3 (rd_T38 xs i).f3.length (rd_T38 xs i).f3 := by
  obtain ⟨ad, c, e, _, hK, hc0⟩ := Kd.C_get h z38 i h0 h1
  have hc : ∀ j u, c[j]? = some u → w.cell? (ad.add (i.toNat * 4 + j)) = some u := hc0
  obtain ⟨A3, c3, rfl, l3, g3⟩ := k38_open hK
  exact ⟨ad, A3, c3, e, hc 0 _ rfl, by rw [← add_field _ _ 1 (by omega)]; exact hc 1 _ rfl, by rw [← add_field _ _ 2 (by omega)]; exact hc 2 _ rfl, by rw [← add_field _ _ 3 (by omega)]; exact hc 3 _ rfl, l3, g3⟩

def rd_L3 (xs : List (List ByteArray)) (i : Int) : (List ByteArray) := xs.getD i.toNat ([] : List ByteArray)
theorem at_L3 {w : World} {A : Option Addr} {n : Nat} {xs : List (List ByteArray)} (h : Kd.C (Kd.slice 9 Kd.string) w A n xs) (i : Int) (h0 : 0 ≤ i) (h1 : i < n) : ∃ ad A0 c0, A = some ad ∧ w.cell? (ad.add i.toNat) = some (.slice A0 (rd_L3 xs i).length c0) ∧ (rd_L3 xs i).length ≤ c0 ∧ Kd.string.C w A0 (rd_L3 xs i).length (rd_L3 xs i) := by
  obtain ⟨ad, c, e, _, hK, hc0⟩ := Kd.C_get h ([] : List ByteArray) i h0 h1
  have hc : ∀ j u, c[j]? = some u → w.cell? (ad.add (i.toNat * 1 + j)) = some u := hc0
  obtain ⟨A0, c0, rfl, l0, g0⟩ := hK
  exact ⟨ad, A0, c0, e, by have hq := hc 0 _ rfl; rwa [Nat.mul_one, Nat.add_zero] at hq, l0, g0⟩

def rd_L4 (xs : List (List S38)) (i : Int) : (List S38) := xs.getD i.toNat ([] : List S38)
theorem at_L4 {w : World} {A : Option Addr} {n : Nat} {xs : List (List S38)} (h : Kd.C (Kd.slice 38 k38) w A n xs) (i : Int) (h0 : 0 ≤ i) (h1 : i < n) : ∃ ad A0 c0, A = some ad ∧ w.cell? (ad.add i.toNat) = some (.slice A0 (rd_L4 xs i).length c0) ∧ (rd_L4 xs i).length ≤ c0 ∧ k38.C w A0 (rd_L4 xs i).length (rd_L4 xs i) := by
  obtain ⟨ad, c, e, _, hK, hc0⟩ := Kd.C_get h ([] : List S38) i h0 h1
  have hc : ∀ j u, c[j]? = some u → w.cell? (ad.add (i.toNat * 1 + j)) = some u := hc0
  obtain ⟨A0, c0, rfl, l0, g0⟩ := hK
  exact ⟨ad, A0, c0, e, by have hq := hc 0 _ rfl; rwa [Nat.mul_one, Nat.add_zero] at hq, l0, g0⟩

end Go.Proofs.YtkefdfnlnkeigaaDoor.PFnRows

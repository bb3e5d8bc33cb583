import Derived.Test.YtkefdfnlnkeigaaDoorG
import Derived.Test.YtkefdfnlnkeigaaDoorL
import Derived.Deep.RegionHeld3
namespace Go.Proofs.YtkefdfnlnkeigaaDoor
open Go.RowKit Go.Proofs.YtkefdfnlnkeigaaDoorW.PrintWords Go.Proofs.YtkefdfnlnkeigaaDoor.PFnRows

/-- The bounds on what is built. -/
structure Fits (st : St) : Prop where
  hcl : st.cols.length ≤ 1000
  hrl : st.rows.length ≤ 1000
  hne : st.rows ≠ []
  hxl : ∀ xs ∈ st.rows, xs.length ≤ 1000
  ht0 : 0 < st.tbl.size
  htl : st.tbl.size ≤ 1000000
  hcj : (Lib.join (st.cols.map (·.data.toList)) [44]).length ≤ 100000000
  hfl : st.rows.flatten.length ≤ 1000
  hpl : ∀ x ∈ st.rows.flatten, Plain x
def sqlOf (st : St) : ByteArray := ⟨(sqlText st.tbl st.cols (st.rows.map (·.length))).toArray⟩

set_option maxRecDepth 100000 in
set_option maxHeartbeats 2000000 in
theorem toSql60 (q : Option Addr) (st : St) (w : World) (hB : Bld w q st) (hF : Fits st) :
    Calls Tryd.prog 60 #[.agg #[.pointer q]] w fun e w' => ∃ v, e = .returned (.tuple #[.string (sqlOf st), v, .nilIface]) ∧ kI.R 20 w' w.heap.size (fun _ => True) v (argsOf st.rows) ∧ Below w.heap.size w w' := by
  have HB := Lib.hid hB
  have HF := Lib.hid hF
  clear hB hF
  go_enter Tryd.func60, Tryd.ntmps60
  go_wp2_with fail
  refine (insertData61 q st _ (HB.out.keep (by go_grown)) HF.out.hcl HF.out.hrl HF.out.hne).mono ?_
  rintro e w1 ⟨Ao, Ac, Av, co, cc, cv, shs, rfl, hb1, hC, hV, hS, hcc⟩
  have hln := hS.len
  have hbw : Below w.heap.size w w1 := Below.trans (by go_grown) (hb1.mono (by simp))
  rw [← hln] at hV
  have HBW := Lib.hid hbw
  have HC := Lib.hid hC
  have HV := Lib.hid hV
  have HS := Lib.hid hS
  have HLN := Lib.hid hln
  rw [← hln]
  clear hbw hC hV hS hb1 hln
  go_wp2_with fail
  refine (toSql62 _ _ Ao Ac Av co cc cv st.tbl st.cols shs st.rows (new_at _ _ _ rfl) (Kd.C_below HC.out (by go_grown)) hcc (Kd.C_below HV.out (by go_grown)) (HS.out.keep (by go_grown)) HF.out.hne HF.out.hrl HF.out.hxl HF.out.ht0 HF.out.htl HF.out.hcl HF.out.hcj).mono ?_
  rintro e w2 ⟨v, rfl, hR, hb2⟩
  have hs1 := HBW.out.size
  have hb02 := HBW.out.trans (((Below.refl w1.heap.size w1).alloc (Nat.le_refl _) _).trans (hb2.mono (by simp)) |>.mono hs1)
  have HB02 := Lib.hid hb02
  have HR := Lib.hid (Kd.R_lower hR (by simp; omega : w.heap.size ≤ _))
  clear hb02 hb2 hR
  go_wp2
  go_returns
  exact ⟨v, rfl, HR.out, HB02.out⟩

set_option maxRecDepth 100000 in
set_option maxHeartbeats 2000000 in
theorem answer20 (s : ByteArray) (xs : List S38) (A : Option Addr) (n c : Nat) (w : World) (hn : n = xs.length) (hr : kI.C w A n (xs.map anyOf)) (hp : ∀ x ∈ xs, Plain x) (hl : xs.length ≤ 1000) :
    Calls Tryd.prog 20 #[.string s, .slice A n c, .nilIface] w fun e w' => ∃ v, e = .returned (.tuple #[.string s, v, .bool true]) ∧ k38.R 38 w' w.heap.size (fun _ => True) v xs ∧ Below w.heap.size w w' := by
  subst hn
  have HP := Lib.hid hp
  have HR := Lib.hid hr
  clear hp hr
  go_enter Tryd.func20, Tryd.ntmps20
  go_wp2_with fail
  refine (valuesOf36 xs A c _ HR.out HP.out hl).mono ?_
  rintro e w1 ⟨v, rfl, hR, hb⟩
  have HR1 := Lib.hid hR
  have HB1 := Lib.hid hb
  clear hR hb
  go_wp2
  go_returns
  exact ⟨v, rfl, HR1.out, HB1.out⟩

set_option maxRecDepth 100000 in
set_option maxHeartbeats 2000000 in
theorem told13 (q : Option Addr) (st : St) (w : World) (hB : Bld w q st) (hF : Fits st) :
    Calls Tryd.prog 13 #[.iface 46 (.agg #[.pointer q])] w fun e w' => ∃ v, e = .returned (.tuple #[.string (sqlOf st), v, .bool true]) ∧ k38.R 38 w' w.heap.size (fun _ => True) v st.rows.flatten ∧ Below w.heap.size w w' := by
  have HB := Lib.hid hB
  have HF := Lib.hid hF
  clear hB hF
  go_enter Tryd.func13, Tryd.ntmps13
  go_wp2_with fail
  refine (toSql60 q st _ HB.out HF.out).mono ?_
  rintro e w1 ⟨v, rfl, hR, hb⟩
  obtain ⟨A, c, rfl, _, hC⟩ := Kd.R_reads hR
  have hlen : (argsOf st.rows).length = st.rows.flatten.length := by unfold argsOf; rw [List.length_map]
  generalize (argsOf st.rows).length = n at *
  have HL := Lib.hid hlen
  have HC := Lib.hid hC
  have HB1 := Lib.hid hb
  clear hlen hC hb hR
  go_wp2_with fail
  refine (answer20 (sqlOf st) st.rows.flatten A n c _ HL.out HC.out HF.out.hpl HF.out.hfl).mono ?_
  rintro e w2 ⟨v, rfl, hR2, hb2⟩
  have HR2 := Lib.hid (Kd.R_lower hR2 HB1.out.size)
  have HB2 := Lib.hid (Below.trans' HB1.out hb2)
  clear hR2 hb2
  go_wp2
  go_returns
  exact ⟨v, rfl, HR2.out, HB2.out⟩

set_option maxRecDepth 100000 in
set_option maxHeartbeats 2000000 in
theorem insertOf7 (xs : List Stp) (ds : List Do) (A : Option Addr) (c : Nat) (w : World) (hr : kS.C w A xs.length xs) (hlen : ds.length = xs.length)
    (hD : ∀ (j : Nat) (s : Stp) (d : Do), xs[j]? = some s → ds[j]? = some d → Does w s d) (hsz : ∀ j : Nat, ((ds.take j).foldl ap ⟨⟨#[]⟩, [], []⟩).cols.length ≤ 1000 ∧ ((ds.take j).foldl ap ⟨⟨#[]⟩, [], []⟩).rows.length ≤ 1000) (hl : xs.length ≤ 1000) (h28 : ∀ s ∈ xs, s.op ≠ 28) (hF : Fits (ds.foldl ap ⟨⟨#[]⟩, [], []⟩)) :
    Calls Tryd.prog 7 #[.slice A xs.length c] w fun e w' => ∃ v, e = .returned (.tuple #[.string (sqlOf (ds.foldl ap ⟨⟨#[]⟩, [], []⟩)), v, .bool true]) ∧ k38.R 38 w' w.heap.size (fun _ => True) v (ds.foldl ap ⟨⟨#[]⟩, [], []⟩).rows.flatten ∧ Below w.heap.size w w' := by
  have HR := Lib.hid hr
  have HD := Lib.hid hD
  have HS := Lib.hid hsz
  have HF := Lib.hid hF
  clear hr hD hsz hF
  go_enter Tryd.func7, Tryd.ntmps7
  go_wp2_with fail
  refine (mixed10 xs A c _ HR.out h28 hl).mono ?_
  rintro e w1 ⟨rfl, hb1⟩
  have HB1 := Lib.hid hb1
  clear hb1
  go_wp2
  go_region_held3 (fun _ => True)
    (first | trivial)
    (first
      | (with_reducible show Calls _ _ _ _ _
         fail_if_success (have hgate := hx2)
         refine (insert12 _ _).mono ?_
         rintro e w2 ⟨b2, rfl, hC2, hb2⟩
         have hx2 := hb2)
      | (with_reducible show Calls _ _ _ _ _
         refine (inserted11 _ ⟨⟨#[]⟩, [], []⟩ xs ds A c _ (Bld.first hC2) (Kd.C_below HR.out (HB1.out.trans ((below_drew (Below.refl _ _)).trans hb2 |>.mono HB1.out.size))) hlen (fun j s d h1 h2 => (HD.out j s d h1 h2).keep (HB1.out.trans ((below_drew (Below.refl _ _)).trans hb2 |>.mono HB1.out.size))) HS.out hl).mono ?_
         rintro e w3 ⟨q, rfl, hB3, hb3⟩))
  have hb13 := HB1.out.trans (((below_drew (Below.refl w1.heap.size w1)).trans hb2).trans (hb3.mono hb2.size) |>.mono HB1.out.size)
  have HB13 := Lib.hid hb13
  have HBLD := Lib.hid hB3
  clear hb13 hB3 hb3 hb2 hx2 hC2
  go_wp2_with fail
  refine (told13 q _ _ HBLD.out HF.out).mono ?_
  rintro e w4 ⟨v, rfl, hR4, hb4⟩
  have HR4 := Lib.hid (Kd.R_lower hR4 HB13.out.size)
  have HB4 := Lib.hid (Below.trans' HB13.out hb4)
  clear hR4 hb4
  go_wp2
  go_returns
  exact ⟨v, rfl, HR4.out, HB4.out⟩
end Go.Proofs.YtkefdfnlnkeigaaDoor

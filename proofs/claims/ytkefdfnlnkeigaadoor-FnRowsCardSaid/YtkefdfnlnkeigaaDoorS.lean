import Derived.Test.YtkefdfnlnkeigaaDoorR
import Derived.Deep.RegionHeld3
namespace Go.Proofs.YtkefdfnlnkeigaaDoor
open Go.RowKit Go.Proofs.YtkefdfnlnkeigaaDoorW.PrintWords Go.Proofs.YtkefdfnlnkeigaaDoor.PFnRows

theorem same8' (xs : List S38) (n : Nat) (A A' : Option Addr) (c c' : Nat) (w : World) (hn : n = xs.length) (h : k38.C w A xs.length xs) (h' : k38.C w A' xs.length xs) (hp : ∀ x ∈ xs, x.f3 = []) (hl : xs.length ≤ 1000000) :
    Calls Tryd.prog 8 #[.slice A n c, .slice A' n c'] w fun e w' => e = .returned (.bool true) ∧ Below w.heap.size w w' := by
  subst hn
  exact same8 xs A A' c c' w h h' hp hl

set_option maxRecDepth 100000 in
set_option maxHeartbeats 16000000 in
theorem fnRows3 (table : ByteArray) (cols : List ByteArray) (rows : List (List S38)) (A1 A2 : Option Addr) (c1 c2 : Nat) (w : World) (h1 : Kd.string.C w A1 cols.length cols) (h1c : cols.length ≤ c1) (h2 : Kd.C (Kd.slice 38 k38) w A2 rows.length rows) :
    Calls Tryd.prog 3 #[.string table, .slice A1 cols.length c1, .slice A2 rows.length c2] w fun e w' => e = .returned (.bool true) ∧ Below w.heap.size w w' := by
  have H1 := Lib.hid h1
  have H2 := Lib.hid h2
  clear h1 h2
  rcases Nat.lt_or_ge 2147483647 table.size with hts | hts
  · have hti : (table.size : Int) > 2147483647 := by omega
    go_enter Tryd.func3, Tryd.ntmps3
    go_wp2
    go_returns
    exact ⟨rfl, Below.refl _ _⟩
  obtain ⟨kf, rf, hf, hfp⟩ := fits_f cols
  obtain ⟨kw, rw', hw, hwp⟩ := word_f table hts
  have HF := Lib.hid hf
  have HFP := Lib.hid hfp
  have HW := Lib.hid hw
  have HWP := Lib.hid hwp
  clear hf hfp hw hwp
  have hti : ¬ (table.size : Int) > 2147483647 := by omega
  go_enter Tryd.func3, Tryd.ntmps3
  go_wp2_with fail
  refine (laws_zzFits1.calls kf A1 c1 cols rf _ H1.out h1c HF.out).mono ?_
  rintro e w1 ⟨rfl, hd1⟩
  have hb1 : Below w.heap.size w w1 := hd1.below
  have HB1 := Lib.hid hb1
  clear hb1 hd1
  cases rf with
  | false =>
    go_wp2
    go_returns
    exact ⟨rfl, HB1.out⟩
  | true =>
    rcases Nat.lt_or_ge 2147483647 rows.length with hrs | hrs
    · have hri : (rows.length : Int) > 2147483647 := by omega
      go_wp2
      go_returns
      exact ⟨rfl, HB1.out⟩
    have hri : ¬ (rows.length : Int) > 2147483647 := by omega
    go_wp2_with fail
    refine (spec_WordRight.calls kw table rw' _ HW.out).mono ?_
    rintro e w2 ⟨rfl, hd2⟩
    have hb2 : Below w.heap.size w w2 := HB1.out.trans (hd2.below.mono HB1.out.size)
    have HB2 := Lib.hid hb2
    clear hb2 hd2 HB1
    cases rw' with
    | false =>
      go_wp2
      go_returns
      exact ⟨rfl, HB2.out⟩
    | true =>
      obtain ⟨ht0, ht2⟩ := HWP.out rfl
      rcases Nat.lt_or_ge 20 cols.length with hc20 | hc20
      · have hci : (cols.length : Int) > 20 := by omega
        go_wp2
        go_returns
        exact ⟨rfl, HB2.out⟩
      rcases Nat.lt_or_ge 20 rows.length with hr20 | hr20
      · have hci : ¬ (cols.length : Int) > 20 := by omega
        have hrj : (rows.length : Int) > 20 := by omega
        go_wp2
        go_returns
        exact ⟨rfl, HB2.out⟩
      by_cases hr0 : rows.length = 0
      · obtain rfl : rows = [] := List.eq_nil_of_length_eq_zero hr0
        have hci : ¬ (cols.length : Int) > 20 := by omega
        go_wp2
        go_returns
        exact ⟨rfl, HB2.out⟩
      have hci : ¬ (cols.length : Int) > 20 := by omega
      have hrj : ¬ (rows.length : Int) > 20 := by omega
      have hrz : ((rows.length : Int) == 0) = false := beq_eq_false_iff_ne.2 (by omega)
      go_wp2_with fail
      have hrl : rows.length ≤ 20 := hr20
      have HR0 := Lib.hid hr0
      have hsteps := steps_two w2 w.heap.size HB2.out.size ⟨25, table, (none, 0, 0), (none, 0, 0)⟩ ⟨1, ⟨#[]⟩, (A1, cols.length, c1), (none, 0, 0)⟩
      have hdoes : DoesAll w [⟨25, table, (none, 0, 0), (none, 0, 0)⟩, ⟨1, ⟨#[]⟩, (A1, cols.length, c1), (none, 0, 0)⟩] (dsOf table cols []) := by
        refine ⟨rfl, fun s hs => ?_, fun j s d hj hd => ?_⟩
        · rcases List.mem_cons.1 hs with rfl | hs
          · show (25 : Int) ≠ 28; decide
          · rcases List.mem_cons.1 hs with rfl | hs
            · show (1 : Int) ≠ 28; decide
            · exact absurd hs List.not_mem_nil
        · match j, hj, hd with
          | 0, hj, hd =>
            injection hj with hj
            injection hd with hd
            subst hj
            subst hd
            exact .into _ _ _
          | 1, hj, hd =>
            injection hj with hj
            injection hd with hd
            subst hj
            subst hd
            exact .cols H1.out
          | j + 2, hj, hd => simp at hj
      have HSTEPS := Lib.hid hsteps
      have HDOES := Lib.hid hdoes
      clear hsteps hdoes hr0 hrz hci hrj hri hti
      go_loopg [7, 8, 9, 10] rows.length (fun k v7 v8 v9 i wr => ∃ (j : Nat) (ss : List Stp) (s8 : ByteArray), i = .int .i64 j ∧ v8 = .string s8 ∧ j ≤ rows.length ∧ Aside0 (j + k = rows.length) ∧ Aside0 (kS.R 31 wr w.heap.size (fun _ => True) v7 ss) ∧
        Aside0 (DoesAll w ss (dsOf table cols (rows.take j))) ∧ Aside0 (s8.data.toList = wantText ((rows.take j).map (·.length))) ∧ Aside0 ((Kd.fixed k38 w).R 38 wr w.heap.size (fun _ => True) v9 (rows.take j).flatten) ∧ Aside0 (GoodRows (rows.take j)) ∧ Aside0 (Below w.heap.size w wr))
      case atStart => exact ⟨0, _, ⟨#[]⟩, rfl, rfl, Nat.zero_le _, ⟨by omega⟩, ⟨HSTEPS.out⟩, ⟨HDOES.out⟩, ⟨rfl⟩, ⟨Kd.R_nil _ _ _ _ _⟩, ⟨fun _ h => absurd h List.not_mem_nil⟩, ⟨HB2.out.alloc HB2.out.size _⟩⟩
      case round =>
        obtain ⟨j, ss, s8, rfl, rfl, hj, hm, hS, hD, hT, hL, hG, hb⟩ := hrel
        obtain ⟨gko, hko⟩ : ∃ x, x = gk := ⟨_, rfl⟩
        have HKO := Lib.hid hko
        clear hko
        rcases Nat.lt_or_ge j rows.length with hlt | hge
        · obtain ⟨ad, A0, c0, rfl, hx0, hlc0, hC0⟩ := at_L4 H2.out (j : Int) (by omega) (by omega)
          have hrj := rd_L4_at rows j hlt
          rw [hrj] at hx0 hlc0 hC0
          simp only [Int.toNat_natCast] at hx0
          have hrow : rows[j]? = some rows[j] := List.getElem?_eq_getElem hlt
          have htk : rows.take (j + 1) = rows.take j ++ [rows[j]] := List.take_succ_eq_append_getElem hlt
          generalize rows[j] = xs at *
          clear hrj
          have HX0 := Lib.hid hx0
          replace hx0 := pw_cell_below hb.out hx0
          have HC0 := Lib.hid hC0
          have HROW := Lib.hid hrow
          have HTK := Lib.hid htk
          clear hC0 hrow htk
          rcases Nat.eq_zero_or_pos xs.length with hx | hx
          · have hxz : ((xs.length : Int) == 0) = true := by rw [hx]; rfl
            have HX := Lib.hid hx
            clear hx
            go_wp2
            go_returns
            exact ⟨rfl, hb.out⟩
          have hxz : ((xs.length : Int) == 0) = false := beq_eq_false_iff_ne.2 (by omega)
          rcases Nat.lt_or_ge 20 xs.length with hx2 | hx2
          · have hxi : (xs.length : Int) > 20 := by omega
            go_wp2
            go_returns
            exact ⟨rfl, hb.out⟩
          have hxi : ¬ (xs.length : Int) > 20 := by omega
          obtain ⟨kp, rp, hp, hpp⟩ := plain_f xs (by omega)
          have HP := Lib.hid hp
          have HPP := Lib.hid hpp
          clear hp hpp
          go_wp2_with fail
          refine (spec_PlainValues.calls kp A0 c0 xs rp _ (Kd.C_below HC0.out hb.out) hlc0 HP.out).mono ?_
          rintro e w3 ⟨rfl, hb3⟩
          have hb03 := hb.out.trans (hb3.mono hb.out.size)
          have hS3 := Kd.R_below hS.out hb3
          have hL3 := Kd.R_below hL.out hb3
          have HB3 := Lib.hid hb03
          have HS3 := Lib.hid hS3
          have HL3 := Lib.hid hL3
          have hx03 := pw_cell_below hb3 hx0
          clear hb3 hb03 hS3 hL3 hS hL hx0
          cases rp with
          | false =>
            go_wp2
            go_returns
            exact ⟨rfl, HB3.out⟩
          | true =>
            have hpl := HPP.out rfl
            have hssl : ss.length ≤ 100 := by rw [hD.out.1]; simp [dsOf]; omega
            have hD5 := hD.out.snoc (s := ⟨26, ⟨#[]⟩, (none, 0, 0), (A0, xs.length, c0)⟩) (d := .vals xs) (by show (26 : Int) ≠ 28; decide) (.vals HC0.out (fun x hx => ⟨(hpl x hx).2.1, (hpl x hx).2.2.1⟩) (by omega))
            rw [← dsOf_snoc, ← HTK.out] at hD5
            have hG5 : GoodRows (rows.take (j + 1)) := by
              rw [HTK.out]
              intro ys hy
              rcases List.mem_append.1 hy with hy | hy
              · exact hG.out ys hy
              · rw [List.mem_singleton.1 hy]
                exact ⟨hx, hx2, hpl⟩
            have HD5 := Lib.hid hD5
            have HG5 := Lib.hid hG5
            have HG := Lib.hid hG.out
            have HT := Lib.hid hT.out
            have HM := Lib.hid hm.out
            have hRX : ∀ ys ∈ rows.take j, ys.length ≤ 1000 := fun ys hy => by have := (hG.out ys hy).2.1; omega
            have HRX' := Lib.hid hRX
            clear hpl hD5 hG5 hG hD hT hRX
            go_wp2_with (first | (at_builtin; refine Kd.R_append kS (w0 := w) w.heap.size rfl (.tmp 81) (.tmp 87) 28 31 (.agg #[.int .i64 0, .string ⟨#[]⟩, .slice none 0 0, .slice none 0 0, .slice none 0 0, .slice none 0 0, .slice none 0 0, .int .u64 0]) 152 rfl Tryd.underlying28 Tryd.info31 rfl (by decide) (by decide) _ ss ⟨26, ⟨#[]⟩, (none, 0, 0), (A0, xs.length, c0)⟩ (Stp.cells ⟨26, ⟨#[]⟩, (none, 0, 0), (A0, xs.length, c0)⟩) (fun _ => True) (fun _ => False) rfl rfl (kS_M _) (fun _ h => h.elim) (fun _ _ => trivial) HS3.out HB3.out HB3.out.size (by omega) ?_))
            intro v7' w4 hS4 hB4 hg4 _
            have hK4 := kept_grown (t := 31) hg4 (fun k hk => Kd.R_typed HS3.out k hk)
            have hL4 := kept_R HL3.out hK4 (one_ne (by decide) rfl) (by simp)
            have hx04 : w4.cell? (ad.add j) = some (.slice A0 xs.length c0) := pw_cell_below hB4 HX0.out
            have HS4 := Lib.hid hS4
            have HB4 := Lib.hid hB4
            clear hS4 hB4 hg4 hK4 hx03
            have hs8 : s8.size ≤ 100000 := by
              have h1 : s8.size = s8.data.toList.length := rfl
              have h2 := wantText_le ((rows.take j).map (·.length)) (fun n hn => by
                obtain ⟨ys, hy, rfl⟩ := List.mem_map.1 hn
                exact HRX'.out ys hy)
              rw [h1, HT.out]
              simp only [List.length_map, List.length_take] at h2
              omega
            rcases Nat.eq_zero_or_pos j with hj0 | hj0
            · have hT' : s8.data.toList = [] := by rw [HT.out, hj0]; simp [wantText, Lib.join_nil]
              have hji : ¬ (j : Int) > 0 := by omega
              have HJ0 := Lib.hid hj0
              clear hj0
              have HT' := Lib.hid hT'
              clear hT'
              go_wp2
              have hT' := HT'.out
              generalize hPV : (s8 ++ ⟨#[40]⟩ : ByteArray) = pv
              have hpv : pv.data.toList = [40] := by rw [← hPV]; simp [ByteArray.data_append, hT']
              have hsz : pv.size ≤ 200000 := by
                rw [← hPV]
                simp only [ByteArray.size_append]
                show s8.size + 1 ≤ 200000; omega
              have hnext : wantText ((rows.take (j + 1)).map (·.length)) = [40] ++ Lib.join (List.replicate xs.length [63]) [44] ++ [41] := by
                rw [HTK.out, List.map_append]
                rw [HJ0.out]; simp [wantText, rowText, Lib.join_one]
              have HPV := Lib.hid hpv
              have HNEXT := Lib.hid hnext
              clear hPV hpv hnext hT'
              go_loopg [8, 11] xs.length (fun m' vs i wx => wx = w4 ∧ ∃ (v : Nat) (sv : ByteArray), i = .int .i64 v ∧ vs = .string sv ∧ v ≤ xs.length ∧ Aside0 (v + m' = xs.length) ∧ Aside0 (sv.data.toList = [40] ++ Lib.join (List.replicate v [63]) [44]))
              case atStart => exact ⟨rfl, 0, pv, rfl, rfl, Nat.zero_le _, ⟨by omega⟩, ⟨by rw [HPV.out]; simp [Lib.join_nil]⟩⟩
              case round =>
                obtain ⟨rfl, v, sv, rfl, rfl, hv, hmv, hsv⟩ := hrel
                have hjv := join_le v
                have hsz' : sv.size ≤ 300000 := by
                  have : sv.size = sv.data.toList.length := rfl
                  rw [this, hsv.out, List.length_append, ← HPV.out]
                  have : pv.data.toList.length = pv.size := rfl
                  omega
                rcases Nat.lt_or_ge v xs.length with hvl | hvl
                · rcases Nat.eq_zero_or_pos v with hv0 | hv0
                  · subst hv0
                    go_wp2
                    go_roundg (gk - 1)
                    case measure => have := hmv.out; omega
                    case rel => exact ⟨rfl, 1, sv ++ ⟨#[63]⟩, by go_num, rfl, by omega, ⟨by have := hmv.out; omega⟩, ⟨by rw [ByteArray.data_append, Array.toList_append, hsv.out]; simp [Lib.join_nil, Lib.join_one]⟩⟩
                  · have hvi : (v : Int) > 0 := by omega
                    go_wp2
                    go_roundg (gk - 1)
                    case measure => have := hmv.out; omega
                    case rel => exact ⟨rfl, v + 1, sv ++ ⟨#[44]⟩ ++ ⟨#[63]⟩, by go_num, rfl, by omega, ⟨by have := hmv.out; omega⟩, ⟨by rw [ByteArray.data_append, ByteArray.data_append, Array.toList_append, Array.toList_append, hsv.out, inner_text, if_neg (by omega)]; simp⟩⟩
                · obtain rfl : v = xs.length := by omega
                  have hsv' : (sv ++ ⟨#[41]⟩ : ByteArray).data.toList = wantText ((rows.take (j + 1)).map (·.length)) := by rw [HNEXT.out, ByteArray.data_append, Array.toList_append, hsv.out]
                  have HSV := Lib.hid hsv'
                  have HL4 := Lib.hid hL4
                  have HR4 := Lib.hid (ReadsRow.imp_ HC0.out HB4.out (fun _ _ h => h))
                  have hfl : (rows.take j).flatten.length ≤ 1000000 := by
                    have h1 := flat_le (rows.take j) HRX'.out
                    have h2 : (rows.take j).length ≤ rows.length := by rw [List.length_take]; omega
                    omega
                  clear hsv' hsv hL4
                  go_wp2_with (first | (at_builtin; refine Kd.R_append_rows (Kd.fixed k38 w) (w0 := w) w.heap.size rfl (.tmp 112) (.tmp 116) 26 38 (.agg #[.int .i64 0, .int .i64 0, .string ⟨#[]⟩, .slice none 0 0]) 56 rfl Tryd.underlying26 Tryd.info38 rfl (by show 0 < 4; decide) (by decide) _ (rows.take j).flatten xs A0 xs.length c0 (fun _ => True) (fun _ => False) rfl rfl HL4.out HR4.out (fun _ _ h => h) (fun _ h => h.elim) (fun _ _ => trivial) HB4.out HB4.out.size (by omega) ?_))
                  intro v9' w5 hL5 hB5 hg5 _
                  have hK5 := kept_grown (t := 38) hg5 (fun k hk => Kd.R_typed HL4.out k hk)
                  have hS5 := kept_R HS4.out hK5 (one_ne (by decide) rfl) (by simp)
                  have hflt : (rows.take (j + 1)).flatten = (rows.take j).flatten ++ xs := by rw [HTK.out, List.flatten_append]; simp
                  rw [← hflt] at hL5
                  have hmm := hm.out
                  have hko := HKO.out
                  have HL5 := Lib.hid hL5
                  have HS5 := Lib.hid hS5
                  have HB5 := Lib.hid hB5
                  clear hL5 hS5 hB5 hg5 hK5 hflt hko
                  go_wp2
                  have hko := HKO.out
                  go_roundg (gko - 1)
                  case measure => omega
                  case rel => exact ⟨j + 1, ss ++ [⟨26, ⟨#[]⟩, (none, 0, 0), (A0, xs.length, c0)⟩], sv ++ ⟨#[41]⟩, by go_num, rfl, by omega, ⟨by omega⟩, ⟨HS5.out⟩, ⟨HD5.out⟩, ⟨HSV.out⟩, ⟨HL5.out⟩, ⟨HG5.out⟩, ⟨HB5.out⟩⟩
            · have hji : (j : Int) > 0 := by omega
              go_wp2
              have hT' := HT.out
              generalize hPV : (s8 ++ ⟨#[44]⟩ ++ ⟨#[40]⟩ : ByteArray) = pv
              have hpv : pv.data.toList = (wantText ((rows.take j).map (·.length)) ++ [44] ++ [40]) := by rw [← hPV]; simp [ByteArray.data_append, hT']
              have hsz : pv.size ≤ 200000 := by
                rw [← hPV]
                simp only [ByteArray.size_append]
                show s8.size + 1 + 1 ≤ 200000; omega
              have hnext : wantText ((rows.take (j + 1)).map (·.length)) = (wantText ((rows.take j).map (·.length)) ++ [44] ++ [40]) ++ Lib.join (List.replicate xs.length [63]) [44] ++ [41] := by
                rw [HTK.out, List.map_append]
                rw [show List.map (fun ys : List S38 => ys.length) [xs] = [xs.length] from rfl, wantText_snoc _ _ (List.ne_nil_of_length_pos (by rw [List.length_map, List.length_take]; omega))]
                simp [rowText]
              have HPV := Lib.hid hpv
              have HNEXT := Lib.hid hnext
              clear hPV hpv hnext hT'
              go_loopg [8, 11] xs.length (fun m' vs i wx => wx = w4 ∧ ∃ (v : Nat) (sv : ByteArray), i = .int .i64 v ∧ vs = .string sv ∧ v ≤ xs.length ∧ Aside0 (v + m' = xs.length) ∧ Aside0 (sv.data.toList = (wantText ((rows.take j).map (·.length)) ++ [44] ++ [40]) ++ Lib.join (List.replicate v [63]) [44]))
              case atStart => exact ⟨rfl, 0, pv, rfl, rfl, Nat.zero_le _, ⟨by omega⟩, ⟨by rw [HPV.out]; simp [Lib.join_nil]⟩⟩
              case round =>
                obtain ⟨rfl, v, sv, rfl, rfl, hv, hmv, hsv⟩ := hrel
                have hjv := join_le v
                have hsz' : sv.size ≤ 300000 := by
                  have : sv.size = sv.data.toList.length := rfl
                  rw [this, hsv.out, List.length_append, ← HPV.out]
                  have : pv.data.toList.length = pv.size := rfl
                  omega
                rcases Nat.lt_or_ge v xs.length with hvl | hvl
                · rcases Nat.eq_zero_or_pos v with hv0 | hv0
                  · subst hv0
                    go_wp2
                    go_roundg (gk - 1)
                    case measure => have := hmv.out; omega
                    case rel => exact ⟨rfl, 1, sv ++ ⟨#[63]⟩, by go_num, rfl, by omega, ⟨by have := hmv.out; omega⟩, ⟨by rw [ByteArray.data_append, Array.toList_append, hsv.out]; simp [Lib.join_nil, Lib.join_one]⟩⟩
                  · have hvi : (v : Int) > 0 := by omega
                    go_wp2
                    go_roundg (gk - 1)
                    case measure => have := hmv.out; omega
                    case rel => exact ⟨rfl, v + 1, sv ++ ⟨#[44]⟩ ++ ⟨#[63]⟩, by go_num, rfl, by omega, ⟨by have := hmv.out; omega⟩, ⟨by rw [ByteArray.data_append, ByteArray.data_append, Array.toList_append, Array.toList_append, hsv.out, inner_text, if_neg (by omega)]; simp⟩⟩
                · obtain rfl : v = xs.length := by omega
                  have hsv' : (sv ++ ⟨#[41]⟩ : ByteArray).data.toList = wantText ((rows.take (j + 1)).map (·.length)) := by rw [HNEXT.out, ByteArray.data_append, Array.toList_append, hsv.out]
                  have HSV := Lib.hid hsv'
                  have HL4 := Lib.hid hL4
                  have HR4 := Lib.hid (ReadsRow.imp_ HC0.out HB4.out (fun _ _ h => h))
                  have hfl : (rows.take j).flatten.length ≤ 1000000 := by
                    have h1 := flat_le (rows.take j) HRX'.out
                    have h2 : (rows.take j).length ≤ rows.length := by rw [List.length_take]; omega
                    omega
                  clear hsv' hsv hL4
                  go_wp2_with (first | (at_builtin; refine Kd.R_append_rows (Kd.fixed k38 w) (w0 := w) w.heap.size rfl (.tmp 112) (.tmp 116) 26 38 (.agg #[.int .i64 0, .int .i64 0, .string ⟨#[]⟩, .slice none 0 0]) 56 rfl Tryd.underlying26 Tryd.info38 rfl (by show 0 < 4; decide) (by decide) _ (rows.take j).flatten xs A0 xs.length c0 (fun _ => True) (fun _ => False) rfl rfl HL4.out HR4.out (fun _ _ h => h) (fun _ h => h.elim) (fun _ _ => trivial) HB4.out HB4.out.size (by omega) ?_))
                  intro v9' w5 hL5 hB5 hg5 _
                  have hK5 := kept_grown (t := 38) hg5 (fun k hk => Kd.R_typed HL4.out k hk)
                  have hS5 := kept_R HS4.out hK5 (one_ne (by decide) rfl) (by simp)
                  have hflt : (rows.take (j + 1)).flatten = (rows.take j).flatten ++ xs := by rw [HTK.out, List.flatten_append]; simp
                  rw [← hflt] at hL5
                  have hmm := hm.out
                  have hko := HKO.out
                  have HL5 := Lib.hid hL5
                  have HS5 := Lib.hid hS5
                  have HB5 := Lib.hid hB5
                  clear hL5 hS5 hB5 hg5 hK5 hflt hko
                  go_wp2
                  have hko := HKO.out
                  go_roundg (gko - 1)
                  case measure => omega
                  case rel => exact ⟨j + 1, ss ++ [⟨26, ⟨#[]⟩, (none, 0, 0), (A0, xs.length, c0)⟩], sv ++ ⟨#[41]⟩, by go_num, rfl, by omega, ⟨by omega⟩, ⟨HS5.out⟩, ⟨HD5.out⟩, ⟨HSV.out⟩, ⟨HL5.out⟩, ⟨HG5.out⟩, ⟨HB5.out⟩⟩
        · have hje : j = rows.length := by omega
          have hT1 := hT.out
          have hL1 := hL.out
          have hG1 := hG.out
          have hD1 := hD.out
          rw [hje, List.take_length] at hT1 hL1 hG1 hD1
          obtain ⟨As, cs, hv7, hcs, hSC⟩ := Kd.R_reads hS.out
          obtain ⟨Al, cl, hv9, hcl, hLC⟩ := Kd.R_reads hL1
          subst hv7
          subst hv9
          have hs8 : s8.size ≤ 100000 := by
            have h1 : s8.size = s8.data.toList.length := rfl
            have h2 := wantText_le (rows.map (·.length)) (fun n hn => by
              obtain ⟨ys, hy, rfl⟩ := List.mem_map.1 hn
              have := (hG1 ys hy).2.1
              omega)
            rw [h1, hT1]
            simp only [List.length_map] at h2
            omega
          have hji : ¬ (j : Int) < (rows.length : Int) := by omega
          have HJE := Lib.hid hje
          have HT1 := Lib.hid hT1
          have HG1 := Lib.hid hG1
          have HD1 := Lib.hid hD1
          have HSC := Lib.hid hSC
          have HLC := Lib.hid hLC
          have HB := Lib.hid hb.out
          obtain ⟨hfl1, hfl2⟩ := HFP.out (by first | rfl | trivial)
          have HFL := Lib.hid hfl2
          clear hje hT1 hL1 hG1 hD1 hSC hLC hT hL hG hD hS hb hfl2
          go_wp2
          go_loopg [12, 13] cols.length (fun m' vs i wx => ∃ (v : Nat) (nm : ByteArray), i = .int .i64 v ∧ vs = .string nm ∧ v ≤ cols.length ∧ Aside0 (v + m' = cols.length) ∧ Aside0 (nm.data.toList = Lib.join ((cols.take v).map (·.data.toList)) [44]) ∧ Aside0 (∀ x ∈ cols.take v, x.size ≤ 200) ∧ Aside0 (Below wr.heap.size wr wx))
          case atStart => exact ⟨0, ⟨#[]⟩, rfl, rfl, Nat.zero_le _, ⟨by omega⟩, ⟨rfl⟩, ⟨fun _ h => absurd h List.not_mem_nil⟩, ⟨Below.refl _ _⟩⟩
          case round =>
            obtain ⟨v, nm, rfl, rfl, hv, hmv, hnm, hsm, hbx⟩ := hrel
            rcases Nat.lt_or_ge v cols.length with hvl | hvl
            · obtain ⟨ad, x, rfl, hy, hx0⟩ := at_str H1.out v hvl
              have hxs := HFL.out v x hy
              have htk : cols.take (v + 1) = cols.take v ++ [x] := by
                obtain ⟨hl, hx⟩ := List.getElem?_eq_some_iff.1 hy
                rw [List.take_succ_eq_append_getElem hl, hx]
              obtain ⟨kc, rc, hc, hcp⟩ := word_f x hxs
              have hbwx := Below.trans' HB.out hbx.out
              replace hx0 := pw_cell_below hbwx hx0
              have hnl : nm.size ≤ 5000 := by
                have h1 : nm.size = nm.data.toList.length := rfl
                rw [h1, hnm.out]
                exact Nat.le_trans (names_le (cols.take v) hsm.out (by rw [List.length_take]; omega)) (by decide)
              have HC := Lib.hid hc
              have HCP := Lib.hid hcp
              have HTK := Lib.hid htk
              have HBWX := Lib.hid hbwx
              clear hc hcp htk hy hbwx
              go_wp2_with fail
              refine (spec_WordRight.calls kc x rc _ HC.out).mono ?_
              rintro e w5 ⟨rfl, hd5⟩
              have hb5 := hd5.below
              have hx5 := pw_cell_below hb5 hx0
              have HB5 := Lib.hid (Below.trans' hbx.out hb5)
              have HBW5 := Lib.hid (Below.trans' HBWX.out hb5)
              clear hb5 hd5 hx0
              cases rc with
              | false =>
                go_wp2
                go_returns
                exact ⟨rfl, HBW5.out⟩
              | true =>
                obtain ⟨hx1, hx2⟩ := HCP.out rfl
                have hsm' : ∀ y ∈ cols.take (v + 1), y.size ≤ 200 := by
                  rw [HTK.out]
                  intro y hy
                  rcases List.mem_append.1 hy with hy | hy
                  · exact hsm.out y hy
                  · rw [List.mem_singleton.1 hy]; exact hx2
                have HSM := Lib.hid hsm'
                have HNM := Lib.hid hnm.out
                have HMV := Lib.hid hmv.out
                clear hsm' hsm hnm hmv hbx
                rcases Nat.eq_zero_or_pos v with hv0 | hv0
                · have hvi : ¬ (v : Int) > 0 := by omega
                  have HV0 := Lib.hid hv0
                  clear hv0
                  go_wp2
                  go_roundg (gk - 1)
                  case measure => have := HMV.out; omega
                  case rel => exact ⟨v + 1, nm ++ x, by go_num, rfl, by omega, ⟨by have := HMV.out; omega⟩, ⟨by rw [HTK.out, ByteArray.data_append, Array.toList_append, HNM.out, HV0.out]; simp [Lib.join_nil, Lib.join_one]⟩, ⟨HSM.out⟩, ⟨HB5.out⟩⟩
                · have hvi : (v : Int) > 0 := by omega
                  go_wp2
                  go_roundg (gk - 1)
                  case measure => have := HMV.out; omega
                  case rel => exact ⟨v + 1, nm ++ ⟨#[44]⟩ ++ x, by go_num, rfl, by omega, ⟨by have := HMV.out; omega⟩, ⟨by rw [HTK.out, ByteArray.data_append, ByteArray.data_append, Array.toList_append, Array.toList_append, HNM.out, List.map_append, List.map_singleton, join_snoc _ _ _ (List.ne_nil_of_length_pos (by rw [List.length_map, List.length_take]; omega))]; simp⟩, ⟨HSM.out⟩, ⟨HB5.out⟩⟩
            · have hve : v = cols.length := by omega
              have hn1 := hnm.out
              have hs1 := hsm.out
              rw [hve, List.take_length] at hn1 hs1
              have hbwx := Below.trans' HB.out hbx.out
              have hnl : nm.size ≤ 5000 := by
                have h1 : nm.size = nm.data.toList.length := rfl
                rw [h1, hn1]
                exact Nat.le_trans (names_le cols hs1 (by omega)) (by decide)
              have hne : rows ≠ [] := by rintro rfl; exact HR0.out rfl
              have hfit := good_fits (cols := cols) HG1.out hrl hne ht0 ht2 (by omega) hs1
              have hsc := Kd.C_below HSC.out hbx.out
              have hlc := ReadsRow.imp_ HLC.out hbx.out (fun _ _ h => h)
              have hdl : ss.length = (dsOf table cols rows).length := HD1.out.1
              have hsl : ss.length ≤ 1000 := by rw [hdl]; simp [dsOf]; omega
              have hfit' : Fits ((dsOf table cols rows).foldl ap ⟨⟨#[]⟩, [], []⟩) := by rw [fold_ds]; exact hfit
              have hszs : ∀ j : Nat, (((dsOf table cols rows).take j).foldl ap ⟨⟨#[]⟩, [], []⟩).cols.length ≤ 1000 ∧ (((dsOf table cols rows).take j).foldl ap ⟨⟨#[]⟩, [], []⟩).rows.length ≤ 1000 := fun j => by
                have h := fold_take (dsOf table cols rows) ⟨⟨#[]⟩, [], []⟩ j
                rw [fold_ds] at h
                exact ⟨by have := h.1; simp only at this; omega, by have := h.2; simp only at this; omega⟩
              have hplx : ∀ x ∈ rows.flatten, x.f3 = [] := fun x hx => by
                obtain ⟨xs, hxs, hx⟩ := List.mem_flatten.1 hx
                exact ((HG1.out xs hxs).2.2 x hx).1
              have hflen : rows.flatten.length ≤ 1000000 := Nat.le_trans hfit.hfl (by decide)
              have HDL := Lib.hid hdl
              have HSL := Lib.hid hsl
              have HFIT := Lib.hid hfit'
              have HSZ := Lib.hid hszs
              have HPL := Lib.hid hplx
              have HFLEN := Lib.hid hflen
              have HSCX := Lib.hid hsc
              have HLCX := Lib.hid hlc
              have HBWX := Lib.hid hbwx
              have HN1 := Lib.hid hn1
              have HVE := Lib.hid hve
              have hvi : ¬ (v : Int) < (cols.length : Int) := by omega
              clear hdl hsl hfit' hfit hszs hplx hflen hsc hlc hbwx hn1 hs1 hve hnm hsm hbx hmv hne
              rcases Nat.eq_zero_or_pos cols.length with hz | hz
              · have hci : ¬ (cols.length : Int) > 0 := by omega
                have hcn : cols = [] := List.eq_nil_of_length_eq_zero hz
                have HCN := Lib.hid hcn
                clear hz hcn
                have hN : (nm).data.toList = colsText cols := by rw [HN1.out, HCN.out]; rfl
                have hq := sql_eq table (nm) s8 cols rows hN HT1.out
                have HQ := Lib.hid hq
                clear hN hq
                go_wp2_with fail
                refine (insertOf7 ss (dsOf table cols rows) As cs _ HSCX.out HDL.out.symm (fun j s d h1 h2 => (HD1.out.2.2 j s d h1 h2).keep HBWX.out) HSZ.out HSL.out HD1.out.2.1 HFIT.out).mono ?_
                rintro e w6 ⟨v6, rfl, hR6, hb6⟩
                rw [fold_ds, HQ.out]
                rw [fold_ds] at hR6
                obtain ⟨Av, cv, rfl, _, hC6⟩ := Kd.R_reads hR6
                have hb06 := Below.trans' HBWX.out hb6
                have hlc6 : k38.C w6 Al rows.flatten.length rows.flatten := ReadsRow.imp_ HLCX.out hb6 (fun _ _ h => k38.K_below hb06 h)
                have HC6 := Lib.hid hC6
                have HLC6 := Lib.hid hlc6
                have HB06 := Lib.hid hb06
                clear hC6 hlc6 hb06 hR6 hb6
                generalize hSQ : (⟨#[73, 78, 83, 69, 82, 84, 32, 73, 78, 84, 79, 32]⟩ ++ table ++ ⟨#[32]⟩ ++ nm ++ ⟨#[86, 65, 76, 85, 69, 83, 32]⟩ ++ s8 : ByteArray) = sv
                have HSV := Lib.hid hSQ
                clear hSQ HQ
                go_upto_region 36 with (fail)
                go_wp2_with fail
                all_goals first | exact (absurd (congrArg ByteArray.toList HSV.out.symm) (by assumption)) | skip
                refine (same8' rows.flatten _ Av Al cv cl _ (by simp [List.length_flatten]) HC6.out HLC6.out HPL.out HFLEN.out).mono ?_
                rintro e w7 ⟨rfl, hb7⟩
                have HB7 := Lib.hid (Below.trans' HB06.out hb7)
                clear hb7
                go_wp2
                go_returns
                exact ⟨rfl, HB7.out⟩
              · have hci : (cols.length : Int) > 0 := by omega
                have hcn : cols ≠ [] := List.ne_nil_of_length_pos hz
                have HCN := Lib.hid hcn
                clear hcn
                have hN : (⟨#[40]⟩ ++ nm ++ ⟨#[41, 32]⟩ : ByteArray).data.toList = colsText cols := by unfold colsText; rw [if_neg HCN.out, ByteArray.data_append, ByteArray.data_append, Array.toList_append, Array.toList_append, HN1.out]
                have hq := sql_eq table (⟨#[40]⟩ ++ nm ++ ⟨#[41, 32]⟩) s8 cols rows hN HT1.out
                have HQ := Lib.hid hq
                clear hN hq
                go_wp2_with fail
                have hnfs : (⟨#[40]⟩ ++ nm ++ ⟨#[41, 32]⟩ : ByteArray).size ≤ 6000 := by
                  simp only [ByteArray.size_append]
                  show 1 + nm.size + 2 ≤ 6000
                  omega
                generalize hnf : (⟨#[40]⟩ ++ nm ++ ⟨#[41, 32]⟩ : ByteArray) = nf at HQ hnfs ⊢
                clear hnf
                refine (insertOf7 ss (dsOf table cols rows) As cs _ HSCX.out HDL.out.symm (fun j s d h1 h2 => (HD1.out.2.2 j s d h1 h2).keep HBWX.out) HSZ.out HSL.out HD1.out.2.1 HFIT.out).mono ?_
                rintro e w6 ⟨v6, rfl, hR6, hb6⟩
                rw [fold_ds, HQ.out]
                rw [fold_ds] at hR6
                obtain ⟨Av, cv, rfl, _, hC6⟩ := Kd.R_reads hR6
                have hb06 := Below.trans' HBWX.out hb6
                have hlc6 : k38.C w6 Al rows.flatten.length rows.flatten := ReadsRow.imp_ HLCX.out hb6 (fun _ _ h => k38.K_below hb06 h)
                have HC6 := Lib.hid hC6
                have HLC6 := Lib.hid hlc6
                have HB06 := Lib.hid hb06
                clear hC6 hlc6 hb06 hR6 hb6
                generalize hSQ : (⟨#[73, 78, 83, 69, 82, 84, 32, 73, 78, 84, 79, 32]⟩ ++ table ++ ⟨#[32]⟩ ++ nf ++ ⟨#[86, 65, 76, 85, 69, 83, 32]⟩ ++ s8 : ByteArray) = sv
                have HSV := Lib.hid hSQ
                clear hSQ HQ
                go_upto_region 36 with (fail)
                go_wp2_with fail
                all_goals first | exact (absurd (congrArg ByteArray.toList HSV.out.symm) (by assumption)) | skip
                refine (same8' rows.flatten _ Av Al cv cl _ (by simp [List.length_flatten]) HC6.out HLC6.out HPL.out HFLEN.out).mono ?_
                rintro e w7 ⟨rfl, hb7⟩
                have HB7 := Lib.hid (Below.trans' HB06.out hb7)
                clear hb7
                go_wp2
                go_returns
                exact ⟨rfl, HB7.out⟩
end Go.Proofs.YtkefdfnlnkeigaaDoor

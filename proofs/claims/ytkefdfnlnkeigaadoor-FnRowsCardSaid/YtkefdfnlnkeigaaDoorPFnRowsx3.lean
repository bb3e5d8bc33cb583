-- PRINTED BY print.sh 35421559b90ae4d0a3588c463048766b98c2df88dd9212a6774a882060cdf62d: not written by this session
import Derived.Test.YtkefdfnlnkeigaaDoorPFnRowsx0
import Derived.Test.YtkefdfnlnkeigaaDoorPFnRowsx2
namespace Go.Proofs.YtkefdfnlnkeigaaDoor.PFnRows
open Go.RowKit Go.Proofs.YtkefdfnlnkeigaaDoorW.PrintWords Go.Proofs.YtkefdfnlnkeigaaDoorW.PrintLast Go.Proofs.YtkefdfnlnkeigaaDoorW.PrintMore
attribute [local go_sem] max2_int min2_int max_two min_two max_three min_three max_four min_four   -- for this text's walks alone
set_option linter.unusedVariables false
set_option linter.unusedSimpArgs false

/-! ### spec_PlainValues: function 6 -/
def spec_PlainValues.l0 : Nat → List (S38) → Int → Option (Bool)
  | 0, _, _ => none
  | k + 1, x0, x3 => if x3 < (x0.length : Int) then (if 0 ≤ x3 then (if ((rd_T38 x0 x3).f0) = 5 then (some false) else (spec_PlainValues.l0 k x0 (wrap64 (x3 + 1)))) else (none)) else ((spec_valuesRight.f k x0).bind fun t109 => (some t109))
def spec_PlainValues.f (k : Nat) (l0 : List (S38)) : Option (Bool) := spec_PlainValues.l0 k l0 0
theorem spec_PlainValues.mono_l : ∀ k, (∀ y0 y1, LeO (spec_PlainValues.l0 k y0 y1) (spec_PlainValues.l0 (k + 1) y0 y1))
  | 0 => fun _ _ r h => by simp [spec_PlainValues.l0] at h
  | k + 1 => by
    have ih0 := spec_PlainValues.mono_l k
    · intro y0 y1
      unfold spec_PlainValues.l0
      repeat' first
      | (with_reducible exact ih0 _ _)
      | (with_reducible exact spec_valuesRight.mono _ _)
      | (with_reducible exact LeO.refl _)
      | (with_reducible exact LeO.none _)
      | (with_reducible refine LeO.ite ?_ ?_)
      | (with_reducible refine LeO.bind ?_ (fun _ => ?_))
      | exact ih0 _ _
      | exact spec_valuesRight.mono _ _
      | exact LeO.none _
      | refine LeO.ite ?_ ?_
      | refine LeO.bind ?_ (fun _ => ?_)
theorem spec_PlainValues.mono : ∀ a0 k, LeO (spec_PlainValues.f k a0) (spec_PlainValues.f (k + 1) a0) := by
  intro a0 k
  have ih0 := spec_PlainValues.mono_l k
  unfold spec_PlainValues.f
  repeat' first
      | (with_reducible exact ih0 _ _)
      | (with_reducible exact spec_valuesRight.mono _ _)
      | (with_reducible exact LeO.refl _)
      | (with_reducible exact LeO.none _)
      | (with_reducible refine LeO.ite ?_ ?_)
      | (with_reducible refine LeO.bind ?_ (fun _ => ?_))
      | exact ih0 _ _
      | exact spec_valuesRight.mono _ _
      | exact LeO.none _
      | refine LeO.ite ?_ ?_
      | refine LeO.bind ?_ (fun _ => ?_)
set_option maxHeartbeats 8000000 in
set_option maxRecDepth 100000 in
theorem spec_PlainValues.calls (k : Nat) (A0 : Option Addr) (c0 : Nat) (l0 : List (S38)) (r : Bool) (w : World) (hr0 : Kd.C k38 w A0 l0.length l0) (hc0 : l0.length ≤ c0) (h : spec_PlainValues.f k l0 = some r) :
    Calls Tryd.prog 6 #[.slice A0 l0.length c0] w fun e w' => e = .returned (.bool r) ∧ Below w.heap.size w w' := by
  have HR0 := Aside0.mk hr0
  have HC0 := Aside0.mk hc0
  clear hr0 hc0
  have HB := Aside0.mk (Below.refl w.heap.size w)
  have H : (spec_PlainValues.l0 k l0 0) = some r := h
  clear h
  have H' := Aside0.mk H
  clear H
  go_enter Tryd.func6, Tryd.ntmps6
  go_wp2
  go_loopg [3] k (fun kq v3 w' => ∃ (x3_1 : Int), v3 = .int .i64 x3_1 ∧ Aside0 (spec_PlainValues.l0 kq l0 x3_1 = some r) ∧ Aside0 (kq ≤ k) ∧ Aside0 (Below w.heap.size w w'))
  case atStart => exact ⟨(0), (by first | rfl | (simp; done) | (simp [*]; done)), H', ⟨Nat.le_refl _⟩, ⟨by repeat (first | (with_reducible first | exact HB.out | apply below_alloc | apply pw_below_drewN | apply below_drew1) | exact HB.out)⟩⟩
  case round =>
    clear H'
    obtain ⟨x3_1, rfl, HA, HK1, HB⟩ := hrel
    cases gk with
    | zero => exact absurd HA.out (by simp [spec_PlainValues.l0])
    | succ k1 =>
      have H := HA.out
      clear HA
      simp only [spec_PlainValues.l0] at H
      by_cases c2 : x3_1 < (l0.length : Int)
      · rw [if_pos c2] at H
        have c2b0 : decide (x3_1 < (l0.length : Int)) = true := decide_eq_true c2
        clear c2
        by_cases c3 : 0 ≤ x3_1
        · rw [if_pos c3] at H
          have c3b0 : decide (0 ≤ x3_1) = true := decide_eq_true c3
          clear c3
          by_cases c4 : ((rd_T38 l0 x3_1).f0) = 5
          · rw [if_pos c4] at H
            have c4b0 : (((rd_T38 l0 x3_1).f0) == 5) = true := beq_iff_eq.mpr c4
            have c4b1 : (((rd_T38 l0 x3_1).f0) != 5) = false := bne_eq_false_iff_eq.mpr c4
            clear c4
            obtain rfl := Option.some.inj H
            have p108 : 0 ≤ (x3_1 : Int) := of_decide_eq_true (by first | (with_reducible assumption) | assumption)
            have q108 : x3_1 < (l0.length : Int) := of_decide_eq_true (by first | (with_reducible assumption) | assumption)
            obtain ⟨ad108, A108_3, c108_3, e108, hx108_0, hx108_1, hx108_2, hx108_3, hl108_3, hi108_3⟩ := at_T38 HR0.out x3_1 p108 q108
            cases e108
            replace hx108_0 := (HB.out.cell (World.block_lt_of_cell? w _ hx108_0)).trans hx108_0
            replace hx108_1 := (HB.out.cell (World.block_lt_of_cell? w _ hx108_1)).trans hx108_1
            replace hx108_2 := (HB.out.cell (World.block_lt_of_cell? w _ hx108_2)).trans hx108_2
            replace hx108_3 := (HB.out.cell (World.block_lt_of_cell? w _ hx108_3)).trans hx108_3
            have HR108_3 := Aside0.mk hi108_3
            have HC108_3 := Aside0.mk hl108_3
            clear hi108_3 hl108_3
            replace p108 := eq_true p108
            replace q108 := eq_true q108
            go_wp2
            go_ret
            exact ⟨by first | rfl | (simp [errW_none, errW_some] <;> rfl) | (simp [*, errW_none, errW_some] <;> rfl), by repeat (first | (with_reducible first | exact HB.out | apply below_alloc | apply pw_below_drewN | apply below_drew1) | exact HB.out)⟩
          · rw [if_neg c4] at H
            have c4b0 : (((rd_T38 l0 x3_1).f0) == 5) = false := beq_eq_false_iff_ne.mpr c4
            have c4b1 : (((rd_T38 l0 x3_1).f0) != 5) = true := bne_iff_ne.mpr c4
            have H' := Aside0.mk H
            clear H
            have p108 : 0 ≤ (x3_1 : Int) := of_decide_eq_true (by first | (with_reducible assumption) | assumption)
            have q108 : x3_1 < (l0.length : Int) := of_decide_eq_true (by first | (with_reducible assumption) | assumption)
            obtain ⟨ad108, A108_3, c108_3, e108, hx108_0, hx108_1, hx108_2, hx108_3, hl108_3, hi108_3⟩ := at_T38 HR0.out x3_1 p108 q108
            cases e108
            replace hx108_0 := (HB.out.cell (World.block_lt_of_cell? w _ hx108_0)).trans hx108_0
            replace hx108_1 := (HB.out.cell (World.block_lt_of_cell? w _ hx108_1)).trans hx108_1
            replace hx108_2 := (HB.out.cell (World.block_lt_of_cell? w _ hx108_2)).trans hx108_2
            replace hx108_3 := (HB.out.cell (World.block_lt_of_cell? w _ hx108_3)).trans hx108_3
            have HR108_3 := Aside0.mk hi108_3
            have HC108_3 := Aside0.mk hl108_3
            clear hi108_3 hl108_3
            replace p108 := eq_true p108
            replace q108 := eq_true q108
            go_wp2
            go_roundg k1
            case measure => have := HK1.out; omega
            case rel => exact ⟨(wrap64 (x3_1 + 1)), (by first | rfl | (simp; done) | (simp [*]; done)), H', ⟨by have := HK1.out; omega⟩, ⟨by repeat (first | (with_reducible first | exact HB.out | apply below_alloc | apply pw_below_drewN | apply below_drew1) | exact HB.out)⟩⟩
        · rw [if_neg c3] at H
          exact absurd H (by simp)
      · rw [if_neg c2] at H
        have c2b0 : decide (x3_1 < (l0.length : Int)) = false := decide_eq_false c2
        clear c2
        replace H := Option.bind_eq_some_iff.mp H
        obtain ⟨t109, A50, H⟩ := H
        replace H : (some t109) = some r := H
        have A5 := Aside0.mk A50
        clear A50
        obtain rfl := Option.some.inj H
        go_wp2_with (first | ((with_reducible refine gate_callee (f := 9) rfl ?_); refine goesL_ (some 17) rfl rfl Tryd.func9 (by kernel_rfl) rfl #[.slice A0 l0.length c0] rfl (by (try simp only [List.map_toArray, List.map_cons, List.map_nil]); first | done | rfl | (simp only [List.length_drop, List.length_take]; rfl)) ?_; (with_reducible refine (spec_valuesRight.calls k1 _ _ l0 t109 _ ?side1 ?side2 A5.out).mono ?_); (case side1 => repeat (first | exact (Kd.C_below HR0.out HB.out) | (with_reducible refine Kd.C_alloc ?_ _) | (with_reducible refine Kd.C_drewN ?_ _) | (with_reducible refine Kd.C_drew ?_))); (case side2 => exact HC0.out); rintro e w6 ⟨rfl, hb⟩; refine ⟨_, rfl, ?_⟩; have n0_ := Aside0.mk (below_step (by repeat (first | (with_reducible first | exact HB.out | apply below_alloc | apply pw_below_drewN | apply below_drew1) | exact HB.out)) hb); clear HB; have HB := n0_; clear n0_; (try clear hb); (try clear hb2); (try clear hk); (try clear hi)))
        go_ret
        exact ⟨by first | rfl | (simp [errW_none, errW_some] <;> rfl) | (simp [*, errW_none, errW_some] <;> rfl), by repeat (first | (with_reducible first | exact HB.out | apply below_alloc | apply pw_below_drewN | apply below_drew1) | exact HB.out)⟩

-- NOT PRINTED: function 10 (impl_mixed)

-- NOT PRINTED: function 21 (squirrel_zzSet)

-- NOT PRINTED: function 16 (squirrel_InsertBuilder_PlaceholderFormat)

-- NOT PRINTED: function 22 (squirrel_InsertBuilder_Options)

-- NOT PRINTED: function 23 (squirrel_InsertBuilder_Into)

-- NOT PRINTED: function 44 (squirrel_zzLookup)

-- NOT PRINTED: function 41 (squirrel_zzAppend)

-- NOT PRINTED: function 37 (squirrel_zzExtend)

-- NOT PRINTED: function 24 (squirrel_InsertBuilder_Columns)

-- NOT PRINTED: function 38 (impl_goOf)

-- NOT PRINTED: function 25 (impl_goList)

-- NOT PRINTED: function 43 (impl_maker_any)

-- NOT PRINTED: function 39 (impl_maker_anys)

-- NOT PRINTED: function 40 (impl_maker_row)

-- NOT PRINTED: function 26 (impl_many)

-- NOT PRINTED: function 27 (squirrel_InsertBuilder_Values)

-- NOT PRINTED: function 28 (impl_tableOf)

-- NOT PRINTED: function 29 (squirrel_InsertBuilder_SetMap)

-- NOT PRINTED: function 30 (impl_selected)

-- NOT PRINTED: function 31 (squirrel_InsertBuilder_Select)

-- NOT PRINTED: function 32 (impl_Step_expr)

-- NOT PRINTED: function 33 (squirrel_InsertBuilder_PrefixExpr)

-- NOT PRINTED: function 34 (squirrel_InsertBuilder_SuffixExpr)

-- NOT PRINTED: function 17 (impl_insertStep)

-- NOT PRINTED: function 11 (impl_inserted)

-- NOT PRINTED: function 35 (squirrel_StatementBuilderType_PlaceholderFormat)

-- NOT PRINTED: function 18 (squirrel_StatementBuilder)

-- NOT PRINTED: function 19 (squirrel_StatementBuilderType_Insert)

-- NOT PRINTED: function 12 (squirrel_Insert)

-- NOT PRINTED: function 42 (impl_valueOf)

-- NOT PRINTED: function 36 (impl_valuesOf)

-- NOT PRINTED: function 20 (impl_answer)

-- NOT PRINTED: function 13 (impl_told)

-- NOT PRINTED: function 7 (impl_InsertOf)

-- NOT PRINTED: function 14 (spec_SameValue)

-- NOT PRINTED: function 8 (spec_SameValues)

-- NOT PRINTED: function 3 (laws_FnRows)

end Go.Proofs.YtkefdfnlnkeigaaDoor.PFnRows

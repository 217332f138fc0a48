/- The printed texts of spec.ScParts, spec.ScValue and spec.ScExpanded (function by function as print.sh wrote them; the text between them, spec.ScVariables, fell and is left out here: its walk lies in YtopmkiadoacipaaVars). -/
import Derived.Test.YtopmkiadoacipaaPFnExpandMadex0
import Derived.Test.YtopmkiadoacipaaPFnExpandMadex3
namespace Go.Proofs.Ytopmkiadoacipaa.PFnExpandMade
open Go.RowKit Go.Proofs.YtopmkiadoacipaaW.PrintWords Go.Proofs.YtopmkiadoacipaaW.PrintLast Go.Proofs.YtopmkiadoacipaaW.PrintMore
attribute [local go_sem] max2_int min2_int max_two min_two max_three min_three max_four min_four   -- for this text's walks alone
set_option linter.unusedVariables false
set_option linter.unusedSimpArgs false


/-! ### spec_ScParts: function 16 -/
def spec_ScParts.l0 : Nat → List (S50) → List (S50) → Int → Int → Option (Bool)
  | 0, _, _, _, _ => none
  | k + 1, x0, x5, x6, x7 => if x7 < x6 then (if 0 ≤ x7 then (if x7 < (x5.length : Int) then (if ((rd_T50 x5 x7).f1 = true) then ((spec_ScVariable.f k ((rd_T50 x5 x7).f0)).bind fun t113 => (if t113 = true then (if ((rd_T50 x5 x7).f2 = true) then (spec_ScParts.l0 k x0 x5 x6 (wrap64 (x7 + 1))) else (if (wrap64 (x7 + 1)) < (x0.length : Int) then (if 0 ≤ (wrap64 (x7 + 1)) then (if ((rd_T50 x0 (wrap64 (x7 + 1))).f1 = true) then (spec_ScParts.l0 k x0 x5 x6 (wrap64 (x7 + 1))) else (if ((rd_T50 x0 (wrap64 (x7 + 1))).f0).toList = ([] : List UInt8) then (some false) else (if 0 < (((rd_T50 x0 (wrap64 (x7 + 1))).f0).size : Int) then ((spec_ScAlnum.f (bt ((rd_T50 x0 (wrap64 (x7 + 1))).f0) 0)).bind fun t117 => (if t117 = true then (some false) else (spec_ScParts.l0 k x0 x5 x6 (wrap64 (x7 + 1))))) else (none)))) else (none)) else (spec_ScParts.l0 k x0 x5 x6 (wrap64 (x7 + 1))))) else (some false))) else ((spec_ScHas.f k ((rd_T50 x5 x7).f0) 36).bind fun t112 => (if t112 = true then (some false) else (spec_ScParts.l0 k x0 x5 x6 (wrap64 (x7 + 1)))))) else (none)) else (none)) else (some true)
def spec_ScParts.f (k : Nat) (l0 : List (S50)) : Option (Bool) := spec_ScParts.l0 k l0 l0 (l0.length : Int) 0
theorem spec_ScParts.mono_l : ∀ k, (∀ y0 y1 y2 y3, LeO (spec_ScParts.l0 k y0 y1 y2 y3) (spec_ScParts.l0 (k + 1) y0 y1 y2 y3))
  | 0 => fun _ _ _ _ r h => by simp [spec_ScParts.l0] at h
  | k + 1 => by
    have ih0 := spec_ScParts.mono_l k
    · intro y0 y1 y2 y3
      unfold spec_ScParts.l0
      repeat' first
      | (with_reducible exact ih0 _ _ _ _)
      | (with_reducible exact spec_ScHas.mono _ _ _)
      | (with_reducible exact spec_ScVariable.mono _ _)
      | (with_reducible exact LeO.refl _)
      | (with_reducible exact LeO.none _)
      | (with_reducible refine LeO.ite ?_ ?_)
      | (with_reducible refine LeO.bind ?_ (fun _ => ?_))
      | exact ih0 _ _ _ _
      | exact spec_ScHas.mono _ _ _
      | exact spec_ScVariable.mono _ _
      | exact LeO.none _
      | refine LeO.ite ?_ ?_
      | refine LeO.bind ?_ (fun _ => ?_)
theorem spec_ScParts.mono : ∀ a0 k, LeO (spec_ScParts.f k a0) (spec_ScParts.f (k + 1) a0) := by
  intro a0 k
  have ih0 := spec_ScParts.mono_l k
  unfold spec_ScParts.f
  repeat' first
      | (with_reducible exact ih0 _ _ _ _)
      | (with_reducible exact spec_ScHas.mono _ _ _)
      | (with_reducible exact spec_ScVariable.mono _ _)
      | (with_reducible exact LeO.refl _)
      | (with_reducible exact LeO.none _)
      | (with_reducible refine LeO.ite ?_ ?_)
      | (with_reducible refine LeO.bind ?_ (fun _ => ?_))
      | exact ih0 _ _ _ _
      | exact spec_ScHas.mono _ _ _
      | exact spec_ScVariable.mono _ _
      | exact LeO.none _
      | refine LeO.ite ?_ ?_
      | refine LeO.bind ?_ (fun _ => ?_)
set_option maxHeartbeats 8000000 in
set_option maxRecDepth 100000 in
theorem spec_ScParts.calls (k : Nat) (A0 : Option Addr) (c0 : Nat) (l0 : List (S50)) (r : Bool) (w : World) (hr0 : Kd.C k50 w A0 l0.length l0) (hc0 : l0.length ≤ c0) (h : spec_ScParts.f k l0 = some r) :
    Calls Try.prog 16 #[.slice A0 l0.length c0] w fun e w' => e = .returned (.bool r) ∧ Below w.heap.size w w' := by
  have hu50 := Try.underlying50
  have HR0 := Aside0.mk hr0
  have HC0 := Aside0.mk hc0
  clear hr0 hc0
  have HB := Aside0.mk (Below.refl w.heap.size w)
  have H : (spec_ScParts.l0 k l0 l0 (l0.length : Int) 0) = some r := h
  clear h
  have H' := Aside0.mk H
  clear H
  go_enter Try.func16, Try.ntmps16
  go_wp2
  go_loopg [7] k (fun kq v7 w' => ∃ (x7_1 : Int), v7 = .int .i64 x7_1 ∧ Aside0 (spec_ScParts.l0 kq l0 l0 (l0.length : Int) x7_1 = some r) ∧ Aside0 (kq ≤ k) ∧ Aside0 (Below w.heap.size w w'))
  case atStart => exact ⟨(0), (by first | rfl | (simp; done) | (simp [*]; done)), H', ⟨Nat.le_refl _⟩, ⟨by repeat (first | (with_reducible first | exact HB.out | apply below_alloc | apply pw_below_drewN | apply below_drew1) | exact HB.out)⟩⟩
  case round =>
    clear H'
    try clear c1
    obtain ⟨x7_1, rfl, HA, HK1, HB⟩ := hrel
    cases gk with
    | zero => exact absurd HA.out (by simp [spec_ScParts.l0])
    | succ k1 =>
      have H := HA.out
      clear HA
      simp only [spec_ScParts.l0] at H
      by_cases c2 : x7_1 < (l0.length : Int)
      · rw [if_pos c2] at H
        have c2b0 : decide (x7_1 < (l0.length : Int)) = true := decide_eq_true c2
        clear c2
        by_cases c3 : 0 ≤ x7_1
        · rw [if_pos c3] at H
          have c3b0 : decide (0 ≤ x7_1) = true := decide_eq_true c3
          clear c3
          by_cases c4 : x7_1 < (l0.length : Int)
          · rw [if_pos c4] at H
            have c4b0 : decide (x7_1 < (l0.length : Int)) = true := decide_eq_true c4
            clear c4
            obtain ⟨bq5, hbq5⟩ : ∃ b_ : Bool, b_ = ((rd_T50 l0 x7_1).f1) := ⟨_, rfl⟩
            replace H : (if (bq5 = true) then ((spec_ScVariable.f k1 ((rd_T50 l0 x7_1).f0)).bind fun t113 => (if t113 = true then (if ((rd_T50 l0 x7_1).f2 = true) then (spec_ScParts.l0 k1 l0 l0 (l0.length : Int) (wrap64 (x7_1 + 1))) else (if (wrap64 (x7_1 + 1)) < (l0.length : Int) then (if 0 ≤ (wrap64 (x7_1 + 1)) then (if ((rd_T50 l0 (wrap64 (x7_1 + 1))).f1 = true) then (spec_ScParts.l0 k1 l0 l0 (l0.length : Int) (wrap64 (x7_1 + 1))) else (if ((rd_T50 l0 (wrap64 (x7_1 + 1))).f0).toList = ([] : List UInt8) then (some false) else (if 0 < (((rd_T50 l0 (wrap64 (x7_1 + 1))).f0).size : Int) then ((spec_ScAlnum.f (bt ((rd_T50 l0 (wrap64 (x7_1 + 1))).f0) 0)).bind fun t117 => (if t117 = true then (some false) else (spec_ScParts.l0 k1 l0 l0 (l0.length : Int) (wrap64 (x7_1 + 1))))) else (none)))) else (none)) else (spec_ScParts.l0 k1 l0 l0 (l0.length : Int) (wrap64 (x7_1 + 1))))) else (some false))) else ((spec_ScHas.f k1 ((rd_T50 l0 x7_1).f0) 36).bind fun t112 => (if t112 = true then (some false) else (spec_ScParts.l0 k1 l0 l0 (l0.length : Int) (wrap64 (x7_1 + 1)))))) = some r := by rw [← hbq5] at H; exact H
            have Nbq5 := Aside0.mk hbq5
            clear hbq5
            by_cases c6 : (bq5 = true)
            · subst c6
              have H1 : ((spec_ScVariable.f k1 ((rd_T50 l0 x7_1).f0)).bind fun t113 => (if t113 = true then (if ((rd_T50 l0 x7_1).f2 = true) then (spec_ScParts.l0 k1 l0 l0 (l0.length : Int) (wrap64 (x7_1 + 1))) else (if (wrap64 (x7_1 + 1)) < (l0.length : Int) then (if 0 ≤ (wrap64 (x7_1 + 1)) then (if ((rd_T50 l0 (wrap64 (x7_1 + 1))).f1 = true) then (spec_ScParts.l0 k1 l0 l0 (l0.length : Int) (wrap64 (x7_1 + 1))) else (if ((rd_T50 l0 (wrap64 (x7_1 + 1))).f0).toList = ([] : List UInt8) then (some false) else (if 0 < (((rd_T50 l0 (wrap64 (x7_1 + 1))).f0).size : Int) then ((spec_ScAlnum.f (bt ((rd_T50 l0 (wrap64 (x7_1 + 1))).f0) 0)).bind fun t117 => (if t117 = true then (some false) else (spec_ScParts.l0 k1 l0 l0 (l0.length : Int) (wrap64 (x7_1 + 1))))) else (none)))) else (none)) else (spec_ScParts.l0 k1 l0 l0 (l0.length : Int) (wrap64 (x7_1 + 1))))) else (some false))) = some r := by rw [if_pos rfl] at H; exact H
              clear H
              have H := H1
              clear H1
              replace H := Option.bind_eq_some_iff.mp H
              obtain ⟨t113, A70, H⟩ := H
              replace H : (if t113 = true then (if ((rd_T50 l0 x7_1).f2 = true) then (spec_ScParts.l0 k1 l0 l0 (l0.length : Int) (wrap64 (x7_1 + 1))) else (if (wrap64 (x7_1 + 1)) < (l0.length : Int) then (if 0 ≤ (wrap64 (x7_1 + 1)) then (if ((rd_T50 l0 (wrap64 (x7_1 + 1))).f1 = true) then (spec_ScParts.l0 k1 l0 l0 (l0.length : Int) (wrap64 (x7_1 + 1))) else (if ((rd_T50 l0 (wrap64 (x7_1 + 1))).f0).toList = ([] : List UInt8) then (some false) else (if 0 < (((rd_T50 l0 (wrap64 (x7_1 + 1))).f0).size : Int) then ((spec_ScAlnum.f (bt ((rd_T50 l0 (wrap64 (x7_1 + 1))).f0) 0)).bind fun t117 => (if t117 = true then (some false) else (spec_ScParts.l0 k1 l0 l0 (l0.length : Int) (wrap64 (x7_1 + 1))))) else (none)))) else (none)) else (spec_ScParts.l0 k1 l0 l0 (l0.length : Int) (wrap64 (x7_1 + 1))))) else (some false)) = some r := H
              have A7 := Aside0.mk A70
              clear A70
              by_cases c8 : t113 = true
              · subst c8
                have H1 : (if ((rd_T50 l0 x7_1).f2 = true) then (spec_ScParts.l0 k1 l0 l0 (l0.length : Int) (wrap64 (x7_1 + 1))) else (if (wrap64 (x7_1 + 1)) < (l0.length : Int) then (if 0 ≤ (wrap64 (x7_1 + 1)) then (if ((rd_T50 l0 (wrap64 (x7_1 + 1))).f1 = true) then (spec_ScParts.l0 k1 l0 l0 (l0.length : Int) (wrap64 (x7_1 + 1))) else (if ((rd_T50 l0 (wrap64 (x7_1 + 1))).f0).toList = ([] : List UInt8) then (some false) else (if 0 < (((rd_T50 l0 (wrap64 (x7_1 + 1))).f0).size : Int) then ((spec_ScAlnum.f (bt ((rd_T50 l0 (wrap64 (x7_1 + 1))).f0) 0)).bind fun t117 => (if t117 = true then (some false) else (spec_ScParts.l0 k1 l0 l0 (l0.length : Int) (wrap64 (x7_1 + 1))))) else (none)))) else (none)) else (spec_ScParts.l0 k1 l0 l0 (l0.length : Int) (wrap64 (x7_1 + 1))))) = some r := by rw [if_pos rfl] at H; exact H
                clear H
                have H := H1
                clear H1
                obtain ⟨bq9, hbq9⟩ : ∃ b_ : Bool, b_ = ((rd_T50 l0 x7_1).f2) := ⟨_, rfl⟩
                replace H : (if (bq9 = true) then (spec_ScParts.l0 k1 l0 l0 (l0.length : Int) (wrap64 (x7_1 + 1))) else (if (wrap64 (x7_1 + 1)) < (l0.length : Int) then (if 0 ≤ (wrap64 (x7_1 + 1)) then (if ((rd_T50 l0 (wrap64 (x7_1 + 1))).f1 = true) then (spec_ScParts.l0 k1 l0 l0 (l0.length : Int) (wrap64 (x7_1 + 1))) else (if ((rd_T50 l0 (wrap64 (x7_1 + 1))).f0).toList = ([] : List UInt8) then (some false) else (if 0 < (((rd_T50 l0 (wrap64 (x7_1 + 1))).f0).size : Int) then ((spec_ScAlnum.f (bt ((rd_T50 l0 (wrap64 (x7_1 + 1))).f0) 0)).bind fun t117 => (if t117 = true then (some false) else (spec_ScParts.l0 k1 l0 l0 (l0.length : Int) (wrap64 (x7_1 + 1))))) else (none)))) else (none)) else (spec_ScParts.l0 k1 l0 l0 (l0.length : Int) (wrap64 (x7_1 + 1))))) = some r := by rw [← hbq9] at H; exact H
                have Nbq9 := Aside0.mk hbq9
                clear hbq9
                by_cases c10 : (bq9 = true)
                · subst c10
                  have H1 : (spec_ScParts.l0 k1 l0 l0 (l0.length : Int) (wrap64 (x7_1 + 1))) = some r := by rw [if_pos rfl] at H; exact H
                  clear H
                  have H := H1
                  clear H1
                  have H' := Aside0.mk H
                  clear H
                  have p110 : 0 ≤ (x7_1 : Int) := of_decide_eq_true (by first | (with_reducible assumption) | assumption)
                  have q110 : x7_1 < (l0.length : Int) := of_decide_eq_true (by first | (with_reducible assumption) | assumption)
                  obtain ⟨ad110, e110, hx110_0, hx110_1, hx110_2⟩ := at_T50 HR0.out x7_1 p110 q110
                  (try rw [← Nbq5.out] at hx110_1)
                  (try rw [← Nbq9.out] at hx110_1)
                  (try rw [← Nbq5.out] at hx110_2)
                  (try rw [← Nbq9.out] at hx110_2)
                  cases e110
                  replace hx110_0 := (HB.out.cell (World.block_lt_of_cell? w _ hx110_0)).trans hx110_0
                  replace hx110_1 := (HB.out.cell (World.block_lt_of_cell? w _ hx110_1)).trans hx110_1
                  replace hx110_2 := (HB.out.cell (World.block_lt_of_cell? w _ hx110_2)).trans hx110_2
                  replace p110 := eq_true p110
                  replace q110 := eq_true q110
                  go_wp2_with (first | ((with_reducible refine gate_dst (N := 4) rfl ?_); (try (refine gate_guard (by rfl) ?_; dsimp only)); refine box_event ?hg (N := 4) ?hd (cs := #[.string (⟨#[]⟩ : ByteArray), .bool false, .bool false]) (t := 50) ?hr ?_; (case hd => rfl); (case hg => rfl); (case hr => first | (go_simp; done) | (go_simp; rfl)); intro gb111 hg w11 hbox hb; have n0_ := Aside0.mk (below_step (by repeat (first | (with_reducible first | exact HB.out | apply below_alloc | apply pw_below_drewN | apply below_drew1) | exact HB.out)) hb); have n1_ := Aside0.mk (hbox); have n2_ := Aside0.mk ((by rw [hg]; exact (below_size (by repeat (first | (with_reducible first | exact HB.out | apply below_alloc | apply pw_below_drewN | apply below_drew1) | exact HB.out))) : w.heap.size ≤ gb111)); have n3_ := Aside0.mk ((by rw [hg]; exact (below_size (by repeat (first | (with_reducible first | exact HB.out | apply below_alloc | apply pw_below_drewN | apply below_drew1) | exact HB.out))) : w.heap.size ≤ gb111)); clear HB; have HB := n0_; have BK111 := n1_; have GW111 := n2_; have GE111 := n3_; clear n0_ n1_ n2_ n3_; clear hb hbox hg; have hcz12_0 : w11.cell? ⟨gb111, 0, none⟩ = some (.string (⟨#[]⟩ : ByteArray)) := (blk_cell BK111.out 0).trans rfl; have hcz12_1 : w11.cell? ⟨gb111, 1, none⟩ = some (.bool false) := (blk_cell BK111.out 1).trans rfl; have hcz12_2 : w11.cell? ⟨gb111, 2, none⟩ = some (.bool false) := (blk_cell BK111.out 2).trans rfl; have hfz12_0 := blk_frozen BK111.out 0; have hfz12_1 := blk_frozen BK111.out 1; have hfz12_2 := blk_frozen BK111.out 2) | ((with_reducible refine gate_callee (f := 13) rfl ?_); refine goesL_ (some 20) rfl rfl Try.func13 (by kernel_rfl) rfl #[.string ((rd_T50 l0 x7_1).f0)] rfl (by (try simp only [List.map_toArray, List.map_cons, List.map_nil]); first | done | rfl | (simp only [List.length_drop, List.length_take]; rfl)) ?_; (with_reducible refine (spec_ScVariable.calls k1 ((rd_T50 l0 x7_1).f0) true _ A7.out).mono ?_); rintro e w' ⟨rfl, ⟨nd, rfl⟩⟩; refine ⟨_, rfl, ?_⟩))
                  go_roundg k1
                  case measure => have := HK1.out; omega
                  case rel => exact ⟨(wrap64 (x7_1 + 1)), (by first | rfl | (simp; done) | (simp [*]; done)), H', ⟨by have := HK1.out; omega⟩, ⟨by repeat (first | (with_reducible first | exact HB.out | apply below_alloc | apply pw_below_drewN | apply below_drew1 | refine below_set ?_ GE111.out) | exact HB.out)⟩⟩
                · replace c10 := Bool.eq_false_iff.mpr c10
                  subst c10
                  have H1 : (if (wrap64 (x7_1 + 1)) < (l0.length : Int) then (if 0 ≤ (wrap64 (x7_1 + 1)) then (if ((rd_T50 l0 (wrap64 (x7_1 + 1))).f1 = true) then (spec_ScParts.l0 k1 l0 l0 (l0.length : Int) (wrap64 (x7_1 + 1))) else (if ((rd_T50 l0 (wrap64 (x7_1 + 1))).f0).toList = ([] : List UInt8) then (some false) else (if 0 < (((rd_T50 l0 (wrap64 (x7_1 + 1))).f0).size : Int) then ((spec_ScAlnum.f (bt ((rd_T50 l0 (wrap64 (x7_1 + 1))).f0) 0)).bind fun t117 => (if t117 = true then (some false) else (spec_ScParts.l0 k1 l0 l0 (l0.length : Int) (wrap64 (x7_1 + 1))))) else (none)))) else (none)) else (spec_ScParts.l0 k1 l0 l0 (l0.length : Int) (wrap64 (x7_1 + 1)))) = some r := by rw [if_neg (show ¬ (false = true) by decide)] at H; exact H
                  clear H
                  have H := H1
                  clear H1
                  by_cases c13 : (wrap64 (x7_1 + 1)) < (l0.length : Int)
                  · rw [if_pos c13] at H
                    have c13b0 : decide ((wrap64 (x7_1 + 1)) < (l0.length : Int)) = true := decide_eq_true c13
                    clear c13
                    obtain ⟨ji14, hji14⟩ : ∃ j_ : Int, (wrap64 (x7_1 + 1)) = j_ := ⟨_, rfl⟩
                    replace H : (if 0 ≤ (ji14) then (if ((rd_T50 l0 (ji14)).f1 = true) then (spec_ScParts.l0 k1 l0 l0 (l0.length : Int) ji14) else (if ((rd_T50 l0 (ji14)).f0).toList = ([] : List UInt8) then (some false) else (if 0 < (((rd_T50 l0 (ji14)).f0).size : Int) then ((spec_ScAlnum.f (bt ((rd_T50 l0 (ji14)).f0) 0)).bind fun t117 => (if t117 = true then (some false) else (spec_ScParts.l0 k1 l0 l0 (l0.length : Int) ji14))) else (none)))) else (none)) = some r := by first | (rw [hji14] at H; exact H) | (simp only [hji14] at H ⊢; exact H)
                    (try rw [hji14] at c13b0)
                    (try rw [hji14] at A7)
                    have hji14w : (IntKind.i64.wrap (x7_1 + 1)) = ji14 := (i64_w _).trans hji14
                    by_cases c15 : 0 ≤ (ji14)
                    · rw [if_pos c15] at H
                      have c15b0 : decide (0 ≤ (ji14)) = true := decide_eq_true c15
                      clear c15
                      obtain ⟨bq16, hbq16⟩ : ∃ b_ : Bool, b_ = ((rd_T50 l0 (ji14)).f1) := ⟨_, rfl⟩
                      replace H : (if (bq16 = true) then (spec_ScParts.l0 k1 l0 l0 (l0.length : Int) ji14) else (if ((rd_T50 l0 (ji14)).f0).toList = ([] : List UInt8) then (some false) else (if 0 < (((rd_T50 l0 (ji14)).f0).size : Int) then ((spec_ScAlnum.f (bt ((rd_T50 l0 (ji14)).f0) 0)).bind fun t117 => (if t117 = true then (some false) else (spec_ScParts.l0 k1 l0 l0 (l0.length : Int) ji14))) else (none)))) = some r := by rw [← hbq16] at H; exact H
                      have Nbq16 := Aside0.mk hbq16
                      clear hbq16
                      by_cases c17 : (bq16 = true)
                      · subst c17
                        have H1 : (spec_ScParts.l0 k1 l0 l0 (l0.length : Int) ji14) = some r := by rw [if_pos rfl] at H; exact H
                        clear H
                        have H := H1
                        clear H1
                        have H' := Aside0.mk H
                        clear H
                        have p110 : 0 ≤ (x7_1 : Int) := of_decide_eq_true (by first | (with_reducible assumption) | assumption)
                        have q110 : x7_1 < (l0.length : Int) := of_decide_eq_true (by first | (with_reducible assumption) | assumption)
                        obtain ⟨ad110, e110, hx110_0, hx110_1, hx110_2⟩ := at_T50 HR0.out x7_1 p110 q110
                        (try rw [← Nbq5.out] at hx110_1)
                        (try rw [← Nbq9.out] at hx110_1)
                        (try rw [← Nbq16.out] at hx110_1)
                        (try rw [← Nbq5.out] at hx110_2)
                        (try rw [← Nbq9.out] at hx110_2)
                        (try rw [← Nbq16.out] at hx110_2)
                        cases e110
                        replace hx110_0 := (HB.out.cell (World.block_lt_of_cell? w _ hx110_0)).trans hx110_0
                        replace hx110_1 := (HB.out.cell (World.block_lt_of_cell? w _ hx110_1)).trans hx110_1
                        replace hx110_2 := (HB.out.cell (World.block_lt_of_cell? w _ hx110_2)).trans hx110_2
                        replace p110 := eq_true p110
                        replace q110 := eq_true q110
                        go_wp2_with (first | ((with_reducible refine gate_dst (N := 4) rfl ?_); (try (refine gate_guard (by rfl) ?_; dsimp only)); refine box_event ?hg (N := 4) ?hd (cs := #[.string (⟨#[]⟩ : ByteArray), .bool false, .bool false]) (t := 50) ?hr ?_; (case hd => rfl); (case hg => rfl); (case hr => first | (go_simp; done) | (go_simp; rfl)); intro gb111 hg w18 hbox hb; have n0_ := Aside0.mk (below_step (by repeat (first | (with_reducible first | exact HB.out | apply below_alloc | apply pw_below_drewN | apply below_drew1) | exact HB.out)) hb); have n1_ := Aside0.mk (hbox); have n2_ := Aside0.mk ((by rw [hg]; exact (below_size (by repeat (first | (with_reducible first | exact HB.out | apply below_alloc | apply pw_below_drewN | apply below_drew1) | exact HB.out))) : w.heap.size ≤ gb111)); have n3_ := Aside0.mk ((by rw [hg]; exact (below_size (by repeat (first | (with_reducible first | exact HB.out | apply below_alloc | apply pw_below_drewN | apply below_drew1) | exact HB.out))) : w.heap.size ≤ gb111)); clear HB; have HB := n0_; have BK111 := n1_; have GW111 := n2_; have GE111 := n3_; clear n0_ n1_ n2_ n3_; clear hb hbox hg; have hcz19_0 : w18.cell? ⟨gb111, 0, none⟩ = some (.string (⟨#[]⟩ : ByteArray)) := (blk_cell BK111.out 0).trans rfl; have hcz19_1 : w18.cell? ⟨gb111, 1, none⟩ = some (.bool false) := (blk_cell BK111.out 1).trans rfl; have hcz19_2 : w18.cell? ⟨gb111, 2, none⟩ = some (.bool false) := (blk_cell BK111.out 2).trans rfl; have hfz19_0 := blk_frozen BK111.out 0; have hfz19_1 := blk_frozen BK111.out 1; have hfz19_2 := blk_frozen BK111.out 2) | ((with_reducible refine gate_callee (f := 13) rfl ?_); refine goesL_ (some 20) rfl rfl Try.func13 (by kernel_rfl) rfl #[.string ((rd_T50 l0 x7_1).f0)] rfl (by (try simp only [List.map_toArray, List.map_cons, List.map_nil]); first | done | rfl | (simp only [List.length_drop, List.length_take]; rfl)) ?_; (with_reducible refine (spec_ScVariable.calls k1 ((rd_T50 l0 x7_1).f0) true _ A7.out).mono ?_); rintro e w' ⟨rfl, ⟨nd, rfl⟩⟩; refine ⟨_, rfl, ?_⟩; have p114 : 0 ≤ ((ji14) : Int) := of_decide_eq_true (by first | (with_reducible assumption) | assumption); have q114 : (ji14) < (l0.length : Int) := of_decide_eq_true (by first | (with_reducible assumption) | assumption); obtain ⟨ad114, e114, hx114_0, hx114_1, hx114_2⟩ := at_T50 HR0.out (ji14) p114 q114; (try rw [← Nbq5.out] at hx114_1); (try rw [← Nbq9.out] at hx114_1); (try rw [← Nbq16.out] at hx114_1); (try rw [← Nbq5.out] at hx114_2); (try rw [← Nbq9.out] at hx114_2); (try rw [← Nbq16.out] at hx114_2); obtain rfl : ad110 = ad114 := (by injection e114); have hn114_0 : ad110.block ≠ gb111 := Nat.ne_of_lt (Nat.lt_of_lt_of_le (by have := World.block_lt_of_cell? _ _ hx114_0; first | rwa [add_block] at this | exact this) GW111.out); have hn114_1 : ad110.block ≠ gb111 := Nat.ne_of_lt (Nat.lt_of_lt_of_le (by have := World.block_lt_of_cell? _ _ hx114_0; first | rwa [add_block] at this | exact this) GW111.out); have hn114_2 : ad110.block ≠ gb111 := Nat.ne_of_lt (Nat.lt_of_lt_of_le (by have := World.block_lt_of_cell? _ _ hx114_0; first | rwa [add_block] at this | exact this) GW111.out); replace hx114_0 := (HB.out.cell (World.block_lt_of_cell? w _ hx114_0)).trans hx114_0; replace hx114_1 := (HB.out.cell (World.block_lt_of_cell? w _ hx114_1)).trans hx114_1; replace hx114_2 := (HB.out.cell (World.block_lt_of_cell? w _ hx114_2)).trans hx114_2; replace hx114_0 := (cell_far (p := ⟨gb111, 0, none⟩) (by first | (rw [add_block]; exact hn114_0) | (show (Addr.add _ _).block ≠ _; rw [add_block]; exact hn114_0) | exact hn114_0) (.string ((rd_T50 l0 x7_1).f0))).trans hx114_0; replace hx114_1 := (cell_far (p := ⟨gb111, 0, none⟩) (by first | (rw [add_block]; exact hn114_0) | (show (Addr.add _ _).block ≠ _; rw [add_block]; exact hn114_0) | exact hn114_0) (.string ((rd_T50 l0 x7_1).f0))).trans hx114_1; replace hx114_2 := (cell_far (p := ⟨gb111, 0, none⟩) (by first | (rw [add_block]; exact hn114_0) | (show (Addr.add _ _).block ≠ _; rw [add_block]; exact hn114_0) | exact hn114_0) (.string ((rd_T50 l0 x7_1).f0))).trans hx114_2; replace hx114_0 := (cell_far (p := ⟨gb111, 1, none⟩) (by first | (rw [add_block]; exact hn114_1) | (show (Addr.add _ _).block ≠ _; rw [add_block]; exact hn114_1) | exact hn114_1) (.bool true)).trans hx114_0; replace hx114_1 := (cell_far (p := ⟨gb111, 1, none⟩) (by first | (rw [add_block]; exact hn114_1) | (show (Addr.add _ _).block ≠ _; rw [add_block]; exact hn114_1) | exact hn114_1) (.bool true)).trans hx114_1; replace hx114_2 := (cell_far (p := ⟨gb111, 1, none⟩) (by first | (rw [add_block]; exact hn114_1) | (show (Addr.add _ _).block ≠ _; rw [add_block]; exact hn114_1) | exact hn114_1) (.bool true)).trans hx114_2; replace hx114_0 := (cell_far (p := ⟨gb111, 2, none⟩) (by first | (rw [add_block]; exact hn114_2) | (show (Addr.add _ _).block ≠ _; rw [add_block]; exact hn114_2) | exact hn114_2) (.bool false)).trans hx114_0; replace hx114_1 := (cell_far (p := ⟨gb111, 2, none⟩) (by first | (rw [add_block]; exact hn114_2) | (show (Addr.add _ _).block ≠ _; rw [add_block]; exact hn114_2) | exact hn114_2) (.bool false)).trans hx114_1; replace hx114_2 := (cell_far (p := ⟨gb111, 2, none⟩) (by first | (rw [add_block]; exact hn114_2) | (show (Addr.add _ _).block ≠ _; rw [add_block]; exact hn114_2) | exact hn114_2) (.bool false)).trans hx114_2; clear hn114_0; clear hn114_1; clear hn114_2; replace p114 := eq_true p114; replace q114 := eq_true q114))
                        go_roundg k1
                        case measure => have := HK1.out; omega
                        case rel => exact ⟨(ji14), (by first | rfl | (simp; done) | (simp only [← hji14] <;> (first | rfl | simp)) | (simp [*]; done)), H', ⟨by have := HK1.out; omega⟩, ⟨by repeat (first | (with_reducible first | exact HB.out | apply below_alloc | apply pw_below_drewN | apply below_drew1 | refine below_set ?_ GE111.out) | exact HB.out)⟩⟩
                      · replace c17 := Bool.eq_false_iff.mpr c17
                        subst c17
                        have H1 : (if ((rd_T50 l0 (ji14)).f0).toList = ([] : List UInt8) then (some false) else (if 0 < (((rd_T50 l0 (ji14)).f0).size : Int) then ((spec_ScAlnum.f (bt ((rd_T50 l0 (ji14)).f0) 0)).bind fun t117 => (if t117 = true then (some false) else (spec_ScParts.l0 k1 l0 l0 (l0.length : Int) ji14))) else (none))) = some r := by rw [if_neg (show ¬ (false = true) by decide)] at H; exact H
                        clear H
                        have H := H1
                        clear H1
                        by_cases c20 : ((rd_T50 l0 (ji14)).f0).toList = ([] : List UInt8)
                        · rw [if_pos c20] at H
                          have c20b0 : (((rd_T50 l0 (ji14)).f0).toList == ([] : List UInt8)) = true := beq_iff_eq.mpr c20
                          have c20b1 : (((rd_T50 l0 (ji14)).f0).toList != ([] : List UInt8)) = false := bne_eq_false_iff_eq.mpr c20
                          clear c20
                          obtain rfl := Option.some.inj H
                          have p110 : 0 ≤ (x7_1 : Int) := of_decide_eq_true (by first | (with_reducible assumption) | assumption)
                          have q110 : x7_1 < (l0.length : Int) := of_decide_eq_true (by first | (with_reducible assumption) | assumption)
                          obtain ⟨ad110, e110, hx110_0, hx110_1, hx110_2⟩ := at_T50 HR0.out x7_1 p110 q110
                          (try rw [← Nbq5.out] at hx110_1)
                          (try rw [← Nbq9.out] at hx110_1)
                          (try rw [← Nbq16.out] at hx110_1)
                          (try rw [← Nbq5.out] at hx110_2)
                          (try rw [← Nbq9.out] at hx110_2)
                          (try rw [← Nbq16.out] at hx110_2)
                          cases e110
                          replace hx110_0 := (HB.out.cell (World.block_lt_of_cell? w _ hx110_0)).trans hx110_0
                          replace hx110_1 := (HB.out.cell (World.block_lt_of_cell? w _ hx110_1)).trans hx110_1
                          replace hx110_2 := (HB.out.cell (World.block_lt_of_cell? w _ hx110_2)).trans hx110_2
                          replace p110 := eq_true p110
                          replace q110 := eq_true q110
                          go_wp2_with (first | ((with_reducible refine gate_dst (N := 4) rfl ?_); (try (refine gate_guard (by rfl) ?_; dsimp only)); refine box_event ?hg (N := 4) ?hd (cs := #[.string (⟨#[]⟩ : ByteArray), .bool false, .bool false]) (t := 50) ?hr ?_; (case hd => rfl); (case hg => rfl); (case hr => first | (go_simp; done) | (go_simp; rfl)); intro gb111 hg w21 hbox hb; have n0_ := Aside0.mk (below_step (by repeat (first | (with_reducible first | exact HB.out | apply below_alloc | apply pw_below_drewN | apply below_drew1) | exact HB.out)) hb); have n1_ := Aside0.mk (hbox); have n2_ := Aside0.mk ((by rw [hg]; exact (below_size (by repeat (first | (with_reducible first | exact HB.out | apply below_alloc | apply pw_below_drewN | apply below_drew1) | exact HB.out))) : w.heap.size ≤ gb111)); have n3_ := Aside0.mk ((by rw [hg]; exact (below_size (by repeat (first | (with_reducible first | exact HB.out | apply below_alloc | apply pw_below_drewN | apply below_drew1) | exact HB.out))) : w.heap.size ≤ gb111)); clear HB; have HB := n0_; have BK111 := n1_; have GW111 := n2_; have GE111 := n3_; clear n0_ n1_ n2_ n3_; clear hb hbox hg; have hcz22_0 : w21.cell? ⟨gb111, 0, none⟩ = some (.string (⟨#[]⟩ : ByteArray)) := (blk_cell BK111.out 0).trans rfl; have hcz22_1 : w21.cell? ⟨gb111, 1, none⟩ = some (.bool false) := (blk_cell BK111.out 1).trans rfl; have hcz22_2 : w21.cell? ⟨gb111, 2, none⟩ = some (.bool false) := (blk_cell BK111.out 2).trans rfl; have hfz22_0 := blk_frozen BK111.out 0; have hfz22_1 := blk_frozen BK111.out 1; have hfz22_2 := blk_frozen BK111.out 2) | ((with_reducible refine gate_callee (f := 13) rfl ?_); refine goesL_ (some 20) rfl rfl Try.func13 (by kernel_rfl) rfl #[.string ((rd_T50 l0 x7_1).f0)] rfl (by (try simp only [List.map_toArray, List.map_cons, List.map_nil]); first | done | rfl | (simp only [List.length_drop, List.length_take]; rfl)) ?_; (with_reducible refine (spec_ScVariable.calls k1 ((rd_T50 l0 x7_1).f0) true _ A7.out).mono ?_); rintro e w' ⟨rfl, ⟨nd, rfl⟩⟩; refine ⟨_, rfl, ?_⟩; have p114 : 0 ≤ ((ji14) : Int) := of_decide_eq_true (by first | (with_reducible assumption) | assumption); have q114 : (ji14) < (l0.length : Int) := of_decide_eq_true (by first | (with_reducible assumption) | assumption); obtain ⟨ad114, e114, hx114_0, hx114_1, hx114_2⟩ := at_T50 HR0.out (ji14) p114 q114; (try rw [← Nbq5.out] at hx114_1); (try rw [← Nbq9.out] at hx114_1); (try rw [← Nbq16.out] at hx114_1); (try rw [← Nbq5.out] at hx114_2); (try rw [← Nbq9.out] at hx114_2); (try rw [← Nbq16.out] at hx114_2); obtain rfl : ad110 = ad114 := (by injection e114); have hn114_0 : ad110.block ≠ gb111 := Nat.ne_of_lt (Nat.lt_of_lt_of_le (by have := World.block_lt_of_cell? _ _ hx114_0; first | rwa [add_block] at this | exact this) GW111.out); have hn114_1 : ad110.block ≠ gb111 := Nat.ne_of_lt (Nat.lt_of_lt_of_le (by have := World.block_lt_of_cell? _ _ hx114_0; first | rwa [add_block] at this | exact this) GW111.out); have hn114_2 : ad110.block ≠ gb111 := Nat.ne_of_lt (Nat.lt_of_lt_of_le (by have := World.block_lt_of_cell? _ _ hx114_0; first | rwa [add_block] at this | exact this) GW111.out); replace hx114_0 := (HB.out.cell (World.block_lt_of_cell? w _ hx114_0)).trans hx114_0; replace hx114_1 := (HB.out.cell (World.block_lt_of_cell? w _ hx114_1)).trans hx114_1; replace hx114_2 := (HB.out.cell (World.block_lt_of_cell? w _ hx114_2)).trans hx114_2; replace hx114_0 := (cell_far (p := ⟨gb111, 0, none⟩) (by first | (rw [add_block]; exact hn114_0) | (show (Addr.add _ _).block ≠ _; rw [add_block]; exact hn114_0) | exact hn114_0) (.string ((rd_T50 l0 x7_1).f0))).trans hx114_0; replace hx114_1 := (cell_far (p := ⟨gb111, 0, none⟩) (by first | (rw [add_block]; exact hn114_0) | (show (Addr.add _ _).block ≠ _; rw [add_block]; exact hn114_0) | exact hn114_0) (.string ((rd_T50 l0 x7_1).f0))).trans hx114_1; replace hx114_2 := (cell_far (p := ⟨gb111, 0, none⟩) (by first | (rw [add_block]; exact hn114_0) | (show (Addr.add _ _).block ≠ _; rw [add_block]; exact hn114_0) | exact hn114_0) (.string ((rd_T50 l0 x7_1).f0))).trans hx114_2; replace hx114_0 := (cell_far (p := ⟨gb111, 1, none⟩) (by first | (rw [add_block]; exact hn114_1) | (show (Addr.add _ _).block ≠ _; rw [add_block]; exact hn114_1) | exact hn114_1) (.bool true)).trans hx114_0; replace hx114_1 := (cell_far (p := ⟨gb111, 1, none⟩) (by first | (rw [add_block]; exact hn114_1) | (show (Addr.add _ _).block ≠ _; rw [add_block]; exact hn114_1) | exact hn114_1) (.bool true)).trans hx114_1; replace hx114_2 := (cell_far (p := ⟨gb111, 1, none⟩) (by first | (rw [add_block]; exact hn114_1) | (show (Addr.add _ _).block ≠ _; rw [add_block]; exact hn114_1) | exact hn114_1) (.bool true)).trans hx114_2; replace hx114_0 := (cell_far (p := ⟨gb111, 2, none⟩) (by first | (rw [add_block]; exact hn114_2) | (show (Addr.add _ _).block ≠ _; rw [add_block]; exact hn114_2) | exact hn114_2) (.bool false)).trans hx114_0; replace hx114_1 := (cell_far (p := ⟨gb111, 2, none⟩) (by first | (rw [add_block]; exact hn114_2) | (show (Addr.add _ _).block ≠ _; rw [add_block]; exact hn114_2) | exact hn114_2) (.bool false)).trans hx114_1; replace hx114_2 := (cell_far (p := ⟨gb111, 2, none⟩) (by first | (rw [add_block]; exact hn114_2) | (show (Addr.add _ _).block ≠ _; rw [add_block]; exact hn114_2) | exact hn114_2) (.bool false)).trans hx114_2; clear hn114_0; clear hn114_1; clear hn114_2; replace p114 := eq_true p114; replace q114 := eq_true q114; have p115 : 0 ≤ ((ji14) : Int) := of_decide_eq_true (by first | (with_reducible assumption) | assumption); have q115 : (ji14) < (l0.length : Int) := of_decide_eq_true (by first | (with_reducible assumption) | assumption); obtain ⟨ad115, e115, hx115_0, hx115_1, hx115_2⟩ := at_T50 HR0.out (ji14) p115 q115; (try rw [← Nbq5.out] at hx115_1); (try rw [← Nbq9.out] at hx115_1); (try rw [← Nbq16.out] at hx115_1); (try rw [← Nbq5.out] at hx115_2); (try rw [← Nbq9.out] at hx115_2); (try rw [← Nbq16.out] at hx115_2); obtain rfl : ad110 = ad115 := (by injection e115); have hn115_0 : ad110.block ≠ gb111 := Nat.ne_of_lt (Nat.lt_of_lt_of_le (by have := World.block_lt_of_cell? _ _ hx115_0; first | rwa [add_block] at this | exact this) GW111.out); have hn115_1 : ad110.block ≠ gb111 := Nat.ne_of_lt (Nat.lt_of_lt_of_le (by have := World.block_lt_of_cell? _ _ hx115_0; first | rwa [add_block] at this | exact this) GW111.out); have hn115_2 : ad110.block ≠ gb111 := Nat.ne_of_lt (Nat.lt_of_lt_of_le (by have := World.block_lt_of_cell? _ _ hx115_0; first | rwa [add_block] at this | exact this) GW111.out); replace hx115_0 := (HB.out.cell (World.block_lt_of_cell? w _ hx115_0)).trans hx115_0; replace hx115_1 := (HB.out.cell (World.block_lt_of_cell? w _ hx115_1)).trans hx115_1; replace hx115_2 := (HB.out.cell (World.block_lt_of_cell? w _ hx115_2)).trans hx115_2; replace hx115_0 := (cell_far (p := ⟨gb111, 0, none⟩) (by first | (rw [add_block]; exact hn115_0) | (show (Addr.add _ _).block ≠ _; rw [add_block]; exact hn115_0) | exact hn115_0) (.string ((rd_T50 l0 x7_1).f0))).trans hx115_0; replace hx115_1 := (cell_far (p := ⟨gb111, 0, none⟩) (by first | (rw [add_block]; exact hn115_0) | (show (Addr.add _ _).block ≠ _; rw [add_block]; exact hn115_0) | exact hn115_0) (.string ((rd_T50 l0 x7_1).f0))).trans hx115_1; replace hx115_2 := (cell_far (p := ⟨gb111, 0, none⟩) (by first | (rw [add_block]; exact hn115_0) | (show (Addr.add _ _).block ≠ _; rw [add_block]; exact hn115_0) | exact hn115_0) (.string ((rd_T50 l0 x7_1).f0))).trans hx115_2; replace hx115_0 := (cell_far (p := ⟨gb111, 1, none⟩) (by first | (rw [add_block]; exact hn115_1) | (show (Addr.add _ _).block ≠ _; rw [add_block]; exact hn115_1) | exact hn115_1) (.bool true)).trans hx115_0; replace hx115_1 := (cell_far (p := ⟨gb111, 1, none⟩) (by first | (rw [add_block]; exact hn115_1) | (show (Addr.add _ _).block ≠ _; rw [add_block]; exact hn115_1) | exact hn115_1) (.bool true)).trans hx115_1; replace hx115_2 := (cell_far (p := ⟨gb111, 1, none⟩) (by first | (rw [add_block]; exact hn115_1) | (show (Addr.add _ _).block ≠ _; rw [add_block]; exact hn115_1) | exact hn115_1) (.bool true)).trans hx115_2; replace hx115_0 := (cell_far (p := ⟨gb111, 2, none⟩) (by first | (rw [add_block]; exact hn115_2) | (show (Addr.add _ _).block ≠ _; rw [add_block]; exact hn115_2) | exact hn115_2) (.bool false)).trans hx115_0; replace hx115_1 := (cell_far (p := ⟨gb111, 2, none⟩) (by first | (rw [add_block]; exact hn115_2) | (show (Addr.add _ _).block ≠ _; rw [add_block]; exact hn115_2) | exact hn115_2) (.bool false)).trans hx115_1; replace hx115_2 := (cell_far (p := ⟨gb111, 2, none⟩) (by first | (rw [add_block]; exact hn115_2) | (show (Addr.add _ _).block ≠ _; rw [add_block]; exact hn115_2) | exact hn115_2) (.bool false)).trans hx115_2; clear hn115_0; clear hn115_1; clear hn115_2; replace p115 := eq_true p115; replace q115 := eq_true q115))
                          go_ret
                          exact ⟨by first | rfl | (simp [errW_none, errW_some] <;> rfl) | (simp only [← hji14]; first | rfl | (simp [errW_none, errW_some] <;> rfl)) | (simp [*, errW_none, errW_some] <;> rfl), by repeat (first | (with_reducible first | exact HB.out | apply below_alloc | apply pw_below_drewN | apply below_drew1 | refine below_set ?_ GE111.out) | exact HB.out)⟩
                        · rw [if_neg c20] at H
                          have c20b0 : (((rd_T50 l0 (ji14)).f0).toList == ([] : List UInt8)) = false := beq_eq_false_iff_ne.mpr c20
                          have c20b1 : (((rd_T50 l0 (ji14)).f0).toList != ([] : List UInt8)) = true := bne_iff_ne.mpr c20
                          by_cases c23 : 0 < (((rd_T50 l0 (ji14)).f0).size : Int)
                          · rw [if_pos c23] at H
                            have c23b0 : decide (0 < (((rd_T50 l0 (ji14)).f0).size : Int)) = true := decide_eq_true c23
                            have c23b1 : decide (0 < ((rd_T50 l0 (ji14)).f0).size) = true := decide_eq_true (by omega)
                            clear c23
                            replace H := Option.bind_eq_some_iff.mp H
                            obtain ⟨t117, A250, H⟩ := H
                            replace H : (if t117 = true then (some false) else (spec_ScParts.l0 k1 l0 l0 (l0.length : Int) ji14)) = some r := H
                            have A25 := Aside0.mk A250
                            clear A250
                            by_cases c26 : t117 = true
                            · subst c26
                              have H1 : (some false) = some r := by rw [if_pos rfl] at H; exact H
                              clear H
                              have H := H1
                              clear H1
                              obtain rfl := Option.some.inj H
                              have p110 : 0 ≤ (x7_1 : Int) := of_decide_eq_true (by first | (with_reducible assumption) | assumption)
                              have q110 : x7_1 < (l0.length : Int) := of_decide_eq_true (by first | (with_reducible assumption) | assumption)
                              obtain ⟨ad110, e110, hx110_0, hx110_1, hx110_2⟩ := at_T50 HR0.out x7_1 p110 q110
                              (try rw [← Nbq5.out] at hx110_1)
                              (try rw [← Nbq9.out] at hx110_1)
                              (try rw [← Nbq16.out] at hx110_1)
                              (try rw [← Nbq5.out] at hx110_2)
                              (try rw [← Nbq9.out] at hx110_2)
                              (try rw [← Nbq16.out] at hx110_2)
                              cases e110
                              replace hx110_0 := (HB.out.cell (World.block_lt_of_cell? w _ hx110_0)).trans hx110_0
                              replace hx110_1 := (HB.out.cell (World.block_lt_of_cell? w _ hx110_1)).trans hx110_1
                              replace hx110_2 := (HB.out.cell (World.block_lt_of_cell? w _ hx110_2)).trans hx110_2
                              replace p110 := eq_true p110
                              replace q110 := eq_true q110
                              go_wp2_with (first | ((with_reducible refine gate_dst (N := 4) rfl ?_); (try (refine gate_guard (by rfl) ?_; dsimp only)); refine box_event ?hg (N := 4) ?hd (cs := #[.string (⟨#[]⟩ : ByteArray), .bool false, .bool false]) (t := 50) ?hr ?_; (case hd => rfl); (case hg => rfl); (case hr => first | (go_simp; done) | (go_simp; rfl)); intro gb111 hg w27 hbox hb; have n0_ := Aside0.mk (below_step (by repeat (first | (with_reducible first | exact HB.out | apply below_alloc | apply pw_below_drewN | apply below_drew1) | exact HB.out)) hb); have n1_ := Aside0.mk (hbox); have n2_ := Aside0.mk ((by rw [hg]; exact (below_size (by repeat (first | (with_reducible first | exact HB.out | apply below_alloc | apply pw_below_drewN | apply below_drew1) | exact HB.out))) : w.heap.size ≤ gb111)); have n3_ := Aside0.mk ((by rw [hg]; exact (below_size (by repeat (first | (with_reducible first | exact HB.out | apply below_alloc | apply pw_below_drewN | apply below_drew1) | exact HB.out))) : w.heap.size ≤ gb111)); clear HB; have HB := n0_; have BK111 := n1_; have GW111 := n2_; have GE111 := n3_; clear n0_ n1_ n2_ n3_; clear hb hbox hg; have hcz28_0 : w27.cell? ⟨gb111, 0, none⟩ = some (.string (⟨#[]⟩ : ByteArray)) := (blk_cell BK111.out 0).trans rfl; have hcz28_1 : w27.cell? ⟨gb111, 1, none⟩ = some (.bool false) := (blk_cell BK111.out 1).trans rfl; have hcz28_2 : w27.cell? ⟨gb111, 2, none⟩ = some (.bool false) := (blk_cell BK111.out 2).trans rfl; have hfz28_0 := blk_frozen BK111.out 0; have hfz28_1 := blk_frozen BK111.out 1; have hfz28_2 := blk_frozen BK111.out 2) | ((with_reducible refine gate_callee (f := 13) rfl ?_); refine goesL_ (some 20) rfl rfl Try.func13 (by kernel_rfl) rfl #[.string ((rd_T50 l0 x7_1).f0)] rfl (by (try simp only [List.map_toArray, List.map_cons, List.map_nil]); first | done | rfl | (simp only [List.length_drop, List.length_take]; rfl)) ?_; (with_reducible refine (spec_ScVariable.calls k1 ((rd_T50 l0 x7_1).f0) true _ A7.out).mono ?_); rintro e w' ⟨rfl, ⟨nd, rfl⟩⟩; refine ⟨_, rfl, ?_⟩; have p114 : 0 ≤ ((ji14) : Int) := of_decide_eq_true (by first | (with_reducible assumption) | assumption); have q114 : (ji14) < (l0.length : Int) := of_decide_eq_true (by first | (with_reducible assumption) | assumption); obtain ⟨ad114, e114, hx114_0, hx114_1, hx114_2⟩ := at_T50 HR0.out (ji14) p114 q114; (try rw [← Nbq5.out] at hx114_1); (try rw [← Nbq9.out] at hx114_1); (try rw [← Nbq16.out] at hx114_1); (try rw [← Nbq5.out] at hx114_2); (try rw [← Nbq9.out] at hx114_2); (try rw [← Nbq16.out] at hx114_2); obtain rfl : ad110 = ad114 := (by injection e114); have hn114_0 : ad110.block ≠ gb111 := Nat.ne_of_lt (Nat.lt_of_lt_of_le (by have := World.block_lt_of_cell? _ _ hx114_0; first | rwa [add_block] at this | exact this) GW111.out); have hn114_1 : ad110.block ≠ gb111 := Nat.ne_of_lt (Nat.lt_of_lt_of_le (by have := World.block_lt_of_cell? _ _ hx114_0; first | rwa [add_block] at this | exact this) GW111.out); have hn114_2 : ad110.block ≠ gb111 := Nat.ne_of_lt (Nat.lt_of_lt_of_le (by have := World.block_lt_of_cell? _ _ hx114_0; first | rwa [add_block] at this | exact this) GW111.out); replace hx114_0 := (HB.out.cell (World.block_lt_of_cell? w _ hx114_0)).trans hx114_0; replace hx114_1 := (HB.out.cell (World.block_lt_of_cell? w _ hx114_1)).trans hx114_1; replace hx114_2 := (HB.out.cell (World.block_lt_of_cell? w _ hx114_2)).trans hx114_2; replace hx114_0 := (cell_far (p := ⟨gb111, 0, none⟩) (by first | (rw [add_block]; exact hn114_0) | (show (Addr.add _ _).block ≠ _; rw [add_block]; exact hn114_0) | exact hn114_0) (.string ((rd_T50 l0 x7_1).f0))).trans hx114_0; replace hx114_1 := (cell_far (p := ⟨gb111, 0, none⟩) (by first | (rw [add_block]; exact hn114_0) | (show (Addr.add _ _).block ≠ _; rw [add_block]; exact hn114_0) | exact hn114_0) (.string ((rd_T50 l0 x7_1).f0))).trans hx114_1; replace hx114_2 := (cell_far (p := ⟨gb111, 0, none⟩) (by first | (rw [add_block]; exact hn114_0) | (show (Addr.add _ _).block ≠ _; rw [add_block]; exact hn114_0) | exact hn114_0) (.string ((rd_T50 l0 x7_1).f0))).trans hx114_2; replace hx114_0 := (cell_far (p := ⟨gb111, 1, none⟩) (by first | (rw [add_block]; exact hn114_1) | (show (Addr.add _ _).block ≠ _; rw [add_block]; exact hn114_1) | exact hn114_1) (.bool true)).trans hx114_0; replace hx114_1 := (cell_far (p := ⟨gb111, 1, none⟩) (by first | (rw [add_block]; exact hn114_1) | (show (Addr.add _ _).block ≠ _; rw [add_block]; exact hn114_1) | exact hn114_1) (.bool true)).trans hx114_1; replace hx114_2 := (cell_far (p := ⟨gb111, 1, none⟩) (by first | (rw [add_block]; exact hn114_1) | (show (Addr.add _ _).block ≠ _; rw [add_block]; exact hn114_1) | exact hn114_1) (.bool true)).trans hx114_2; replace hx114_0 := (cell_far (p := ⟨gb111, 2, none⟩) (by first | (rw [add_block]; exact hn114_2) | (show (Addr.add _ _).block ≠ _; rw [add_block]; exact hn114_2) | exact hn114_2) (.bool false)).trans hx114_0; replace hx114_1 := (cell_far (p := ⟨gb111, 2, none⟩) (by first | (rw [add_block]; exact hn114_2) | (show (Addr.add _ _).block ≠ _; rw [add_block]; exact hn114_2) | exact hn114_2) (.bool false)).trans hx114_1; replace hx114_2 := (cell_far (p := ⟨gb111, 2, none⟩) (by first | (rw [add_block]; exact hn114_2) | (show (Addr.add _ _).block ≠ _; rw [add_block]; exact hn114_2) | exact hn114_2) (.bool false)).trans hx114_2; clear hn114_0; clear hn114_1; clear hn114_2; replace p114 := eq_true p114; replace q114 := eq_true q114; have p115 : 0 ≤ ((ji14) : Int) := of_decide_eq_true (by first | (with_reducible assumption) | assumption); have q115 : (ji14) < (l0.length : Int) := of_decide_eq_true (by first | (with_reducible assumption) | assumption); obtain ⟨ad115, e115, hx115_0, hx115_1, hx115_2⟩ := at_T50 HR0.out (ji14) p115 q115; (try rw [← Nbq5.out] at hx115_1); (try rw [← Nbq9.out] at hx115_1); (try rw [← Nbq16.out] at hx115_1); (try rw [← Nbq5.out] at hx115_2); (try rw [← Nbq9.out] at hx115_2); (try rw [← Nbq16.out] at hx115_2); obtain rfl : ad110 = ad115 := (by injection e115); have hn115_0 : ad110.block ≠ gb111 := Nat.ne_of_lt (Nat.lt_of_lt_of_le (by have := World.block_lt_of_cell? _ _ hx115_0; first | rwa [add_block] at this | exact this) GW111.out); have hn115_1 : ad110.block ≠ gb111 := Nat.ne_of_lt (Nat.lt_of_lt_of_le (by have := World.block_lt_of_cell? _ _ hx115_0; first | rwa [add_block] at this | exact this) GW111.out); have hn115_2 : ad110.block ≠ gb111 := Nat.ne_of_lt (Nat.lt_of_lt_of_le (by have := World.block_lt_of_cell? _ _ hx115_0; first | rwa [add_block] at this | exact this) GW111.out); replace hx115_0 := (HB.out.cell (World.block_lt_of_cell? w _ hx115_0)).trans hx115_0; replace hx115_1 := (HB.out.cell (World.block_lt_of_cell? w _ hx115_1)).trans hx115_1; replace hx115_2 := (HB.out.cell (World.block_lt_of_cell? w _ hx115_2)).trans hx115_2; replace hx115_0 := (cell_far (p := ⟨gb111, 0, none⟩) (by first | (rw [add_block]; exact hn115_0) | (show (Addr.add _ _).block ≠ _; rw [add_block]; exact hn115_0) | exact hn115_0) (.string ((rd_T50 l0 x7_1).f0))).trans hx115_0; replace hx115_1 := (cell_far (p := ⟨gb111, 0, none⟩) (by first | (rw [add_block]; exact hn115_0) | (show (Addr.add _ _).block ≠ _; rw [add_block]; exact hn115_0) | exact hn115_0) (.string ((rd_T50 l0 x7_1).f0))).trans hx115_1; replace hx115_2 := (cell_far (p := ⟨gb111, 0, none⟩) (by first | (rw [add_block]; exact hn115_0) | (show (Addr.add _ _).block ≠ _; rw [add_block]; exact hn115_0) | exact hn115_0) (.string ((rd_T50 l0 x7_1).f0))).trans hx115_2; replace hx115_0 := (cell_far (p := ⟨gb111, 1, none⟩) (by first | (rw [add_block]; exact hn115_1) | (show (Addr.add _ _).block ≠ _; rw [add_block]; exact hn115_1) | exact hn115_1) (.bool true)).trans hx115_0; replace hx115_1 := (cell_far (p := ⟨gb111, 1, none⟩) (by first | (rw [add_block]; exact hn115_1) | (show (Addr.add _ _).block ≠ _; rw [add_block]; exact hn115_1) | exact hn115_1) (.bool true)).trans hx115_1; replace hx115_2 := (cell_far (p := ⟨gb111, 1, none⟩) (by first | (rw [add_block]; exact hn115_1) | (show (Addr.add _ _).block ≠ _; rw [add_block]; exact hn115_1) | exact hn115_1) (.bool true)).trans hx115_2; replace hx115_0 := (cell_far (p := ⟨gb111, 2, none⟩) (by first | (rw [add_block]; exact hn115_2) | (show (Addr.add _ _).block ≠ _; rw [add_block]; exact hn115_2) | exact hn115_2) (.bool false)).trans hx115_0; replace hx115_1 := (cell_far (p := ⟨gb111, 2, none⟩) (by first | (rw [add_block]; exact hn115_2) | (show (Addr.add _ _).block ≠ _; rw [add_block]; exact hn115_2) | exact hn115_2) (.bool false)).trans hx115_1; replace hx115_2 := (cell_far (p := ⟨gb111, 2, none⟩) (by first | (rw [add_block]; exact hn115_2) | (show (Addr.add _ _).block ≠ _; rw [add_block]; exact hn115_2) | exact hn115_2) (.bool false)).trans hx115_2; clear hn115_0; clear hn115_1; clear hn115_2; replace p115 := eq_true p115; replace q115 := eq_true q115; have p116 : 0 ≤ ((ji14) : Int) := of_decide_eq_true (by first | (with_reducible assumption) | assumption); have q116 : (ji14) < (l0.length : Int) := of_decide_eq_true (by first | (with_reducible assumption) | assumption); obtain ⟨ad116, e116, hx116_0, hx116_1, hx116_2⟩ := at_T50 HR0.out (ji14) p116 q116; (try rw [← Nbq5.out] at hx116_1); (try rw [← Nbq9.out] at hx116_1); (try rw [← Nbq16.out] at hx116_1); (try rw [← Nbq5.out] at hx116_2); (try rw [← Nbq9.out] at hx116_2); (try rw [← Nbq16.out] at hx116_2); obtain rfl : ad110 = ad116 := (by injection e116); have hn116_0 : ad110.block ≠ gb111 := Nat.ne_of_lt (Nat.lt_of_lt_of_le (by have := World.block_lt_of_cell? _ _ hx116_0; first | rwa [add_block] at this | exact this) GW111.out); have hn116_1 : ad110.block ≠ gb111 := Nat.ne_of_lt (Nat.lt_of_lt_of_le (by have := World.block_lt_of_cell? _ _ hx116_0; first | rwa [add_block] at this | exact this) GW111.out); have hn116_2 : ad110.block ≠ gb111 := Nat.ne_of_lt (Nat.lt_of_lt_of_le (by have := World.block_lt_of_cell? _ _ hx116_0; first | rwa [add_block] at this | exact this) GW111.out); replace hx116_0 := (HB.out.cell (World.block_lt_of_cell? w _ hx116_0)).trans hx116_0; replace hx116_1 := (HB.out.cell (World.block_lt_of_cell? w _ hx116_1)).trans hx116_1; replace hx116_2 := (HB.out.cell (World.block_lt_of_cell? w _ hx116_2)).trans hx116_2; replace hx116_0 := (cell_far (p := ⟨gb111, 0, none⟩) (by first | (rw [add_block]; exact hn116_0) | (show (Addr.add _ _).block ≠ _; rw [add_block]; exact hn116_0) | exact hn116_0) (.string ((rd_T50 l0 x7_1).f0))).trans hx116_0; replace hx116_1 := (cell_far (p := ⟨gb111, 0, none⟩) (by first | (rw [add_block]; exact hn116_0) | (show (Addr.add _ _).block ≠ _; rw [add_block]; exact hn116_0) | exact hn116_0) (.string ((rd_T50 l0 x7_1).f0))).trans hx116_1; replace hx116_2 := (cell_far (p := ⟨gb111, 0, none⟩) (by first | (rw [add_block]; exact hn116_0) | (show (Addr.add _ _).block ≠ _; rw [add_block]; exact hn116_0) | exact hn116_0) (.string ((rd_T50 l0 x7_1).f0))).trans hx116_2; replace hx116_0 := (cell_far (p := ⟨gb111, 1, none⟩) (by first | (rw [add_block]; exact hn116_1) | (show (Addr.add _ _).block ≠ _; rw [add_block]; exact hn116_1) | exact hn116_1) (.bool true)).trans hx116_0; replace hx116_1 := (cell_far (p := ⟨gb111, 1, none⟩) (by first | (rw [add_block]; exact hn116_1) | (show (Addr.add _ _).block ≠ _; rw [add_block]; exact hn116_1) | exact hn116_1) (.bool true)).trans hx116_1; replace hx116_2 := (cell_far (p := ⟨gb111, 1, none⟩) (by first | (rw [add_block]; exact hn116_1) | (show (Addr.add _ _).block ≠ _; rw [add_block]; exact hn116_1) | exact hn116_1) (.bool true)).trans hx116_2; replace hx116_0 := (cell_far (p := ⟨gb111, 2, none⟩) (by first | (rw [add_block]; exact hn116_2) | (show (Addr.add _ _).block ≠ _; rw [add_block]; exact hn116_2) | exact hn116_2) (.bool false)).trans hx116_0; replace hx116_1 := (cell_far (p := ⟨gb111, 2, none⟩) (by first | (rw [add_block]; exact hn116_2) | (show (Addr.add _ _).block ≠ _; rw [add_block]; exact hn116_2) | exact hn116_2) (.bool false)).trans hx116_1; replace hx116_2 := (cell_far (p := ⟨gb111, 2, none⟩) (by first | (rw [add_block]; exact hn116_2) | (show (Addr.add _ _).block ≠ _; rw [add_block]; exact hn116_2) | exact hn116_2) (.bool false)).trans hx116_2; clear hn116_0; clear hn116_1; clear hn116_2; replace p116 := eq_true p116; replace q116 := eq_true q116; have p24 : 0 ≤ (0 : Int) := (by omega); have q24 : 0 < ((rd_T50 l0 (ji14)).f0).size := (by have : (0 : Int) < (((rd_T50 l0 (ji14)).f0).size : Int) := of_decide_eq_true (by first | (with_reducible assumption) | assumption); omega); have hx24 : ∀ h : 0 < ((rd_T50 l0 (ji14)).f0).size, ((((rd_T50 l0 (ji14)).f0)[0]'h).toNat : Int) = bt ((rd_T50 l0 (ji14)).f0) 0 := bt_at ((rd_T50 l0 (ji14)).f0) 0; clear p24; have qi24 : (0 < (((rd_T50 l0 (ji14)).f0).size : Int)) = True := eq_true (of_decide_eq_true (by first | (with_reducible assumption) | assumption)); replace q24 := eq_true q24) | (go_at_call 27; (with_reducible refine (spec_ScAlnum.calls (bt ((rd_T50 l0 (ji14)).f0) 0) true _ A25.out).mono ?_); rintro e w' ⟨rfl, ⟨nd, rfl⟩⟩))
                              go_ret
                              exact ⟨by first | rfl | (simp [errW_none, errW_some] <;> rfl) | (simp only [← hji14]; first | rfl | (simp [errW_none, errW_some] <;> rfl)) | (simp [*, errW_none, errW_some] <;> rfl), by repeat (first | (with_reducible first | exact HB.out | apply below_alloc | apply pw_below_drewN | apply below_drew1 | refine below_set ?_ GE111.out) | exact HB.out)⟩
                            · replace c26 := Bool.eq_false_iff.mpr c26
                              subst c26
                              have H1 : (spec_ScParts.l0 k1 l0 l0 (l0.length : Int) ji14) = some r := by rw [if_neg (show ¬ (false = true) by decide)] at H; exact H
                              clear H
                              have H := H1
                              clear H1
                              have H' := Aside0.mk H
                              clear H
                              have p110 : 0 ≤ (x7_1 : Int) := of_decide_eq_true (by first | (with_reducible assumption) | assumption)
                              have q110 : x7_1 < (l0.length : Int) := of_decide_eq_true (by first | (with_reducible assumption) | assumption)
                              obtain ⟨ad110, e110, hx110_0, hx110_1, hx110_2⟩ := at_T50 HR0.out x7_1 p110 q110
                              (try rw [← Nbq5.out] at hx110_1)
                              (try rw [← Nbq9.out] at hx110_1)
                              (try rw [← Nbq16.out] at hx110_1)
                              (try rw [← Nbq5.out] at hx110_2)
                              (try rw [← Nbq9.out] at hx110_2)
                              (try rw [← Nbq16.out] at hx110_2)
                              cases e110
                              replace hx110_0 := (HB.out.cell (World.block_lt_of_cell? w _ hx110_0)).trans hx110_0
                              replace hx110_1 := (HB.out.cell (World.block_lt_of_cell? w _ hx110_1)).trans hx110_1
                              replace hx110_2 := (HB.out.cell (World.block_lt_of_cell? w _ hx110_2)).trans hx110_2
                              replace p110 := eq_true p110
                              replace q110 := eq_true q110
                              go_wp2_with (first | ((with_reducible refine gate_dst (N := 4) rfl ?_); (try (refine gate_guard (by rfl) ?_; dsimp only)); refine box_event ?hg (N := 4) ?hd (cs := #[.string (⟨#[]⟩ : ByteArray), .bool false, .bool false]) (t := 50) ?hr ?_; (case hd => rfl); (case hg => rfl); (case hr => first | (go_simp; done) | (go_simp; rfl)); intro gb111 hg w29 hbox hb; have n0_ := Aside0.mk (below_step (by repeat (first | (with_reducible first | exact HB.out | apply below_alloc | apply pw_below_drewN | apply below_drew1) | exact HB.out)) hb); have n1_ := Aside0.mk (hbox); have n2_ := Aside0.mk ((by rw [hg]; exact (below_size (by repeat (first | (with_reducible first | exact HB.out | apply below_alloc | apply pw_below_drewN | apply below_drew1) | exact HB.out))) : w.heap.size ≤ gb111)); have n3_ := Aside0.mk ((by rw [hg]; exact (below_size (by repeat (first | (with_reducible first | exact HB.out | apply below_alloc | apply pw_below_drewN | apply below_drew1) | exact HB.out))) : w.heap.size ≤ gb111)); clear HB; have HB := n0_; have BK111 := n1_; have GW111 := n2_; have GE111 := n3_; clear n0_ n1_ n2_ n3_; clear hb hbox hg; have hcz30_0 : w29.cell? ⟨gb111, 0, none⟩ = some (.string (⟨#[]⟩ : ByteArray)) := (blk_cell BK111.out 0).trans rfl; have hcz30_1 : w29.cell? ⟨gb111, 1, none⟩ = some (.bool false) := (blk_cell BK111.out 1).trans rfl; have hcz30_2 : w29.cell? ⟨gb111, 2, none⟩ = some (.bool false) := (blk_cell BK111.out 2).trans rfl; have hfz30_0 := blk_frozen BK111.out 0; have hfz30_1 := blk_frozen BK111.out 1; have hfz30_2 := blk_frozen BK111.out 2) | ((with_reducible refine gate_callee (f := 13) rfl ?_); refine goesL_ (some 20) rfl rfl Try.func13 (by kernel_rfl) rfl #[.string ((rd_T50 l0 x7_1).f0)] rfl (by (try simp only [List.map_toArray, List.map_cons, List.map_nil]); first | done | rfl | (simp only [List.length_drop, List.length_take]; rfl)) ?_; (with_reducible refine (spec_ScVariable.calls k1 ((rd_T50 l0 x7_1).f0) true _ A7.out).mono ?_); rintro e w' ⟨rfl, ⟨nd, rfl⟩⟩; refine ⟨_, rfl, ?_⟩; have p114 : 0 ≤ ((ji14) : Int) := of_decide_eq_true (by first | (with_reducible assumption) | assumption); have q114 : (ji14) < (l0.length : Int) := of_decide_eq_true (by first | (with_reducible assumption) | assumption); obtain ⟨ad114, e114, hx114_0, hx114_1, hx114_2⟩ := at_T50 HR0.out (ji14) p114 q114; (try rw [← Nbq5.out] at hx114_1); (try rw [← Nbq9.out] at hx114_1); (try rw [← Nbq16.out] at hx114_1); (try rw [← Nbq5.out] at hx114_2); (try rw [← Nbq9.out] at hx114_2); (try rw [← Nbq16.out] at hx114_2); obtain rfl : ad110 = ad114 := (by injection e114); have hn114_0 : ad110.block ≠ gb111 := Nat.ne_of_lt (Nat.lt_of_lt_of_le (by have := World.block_lt_of_cell? _ _ hx114_0; first | rwa [add_block] at this | exact this) GW111.out); have hn114_1 : ad110.block ≠ gb111 := Nat.ne_of_lt (Nat.lt_of_lt_of_le (by have := World.block_lt_of_cell? _ _ hx114_0; first | rwa [add_block] at this | exact this) GW111.out); have hn114_2 : ad110.block ≠ gb111 := Nat.ne_of_lt (Nat.lt_of_lt_of_le (by have := World.block_lt_of_cell? _ _ hx114_0; first | rwa [add_block] at this | exact this) GW111.out); replace hx114_0 := (HB.out.cell (World.block_lt_of_cell? w _ hx114_0)).trans hx114_0; replace hx114_1 := (HB.out.cell (World.block_lt_of_cell? w _ hx114_1)).trans hx114_1; replace hx114_2 := (HB.out.cell (World.block_lt_of_cell? w _ hx114_2)).trans hx114_2; replace hx114_0 := (cell_far (p := ⟨gb111, 0, none⟩) (by first | (rw [add_block]; exact hn114_0) | (show (Addr.add _ _).block ≠ _; rw [add_block]; exact hn114_0) | exact hn114_0) (.string ((rd_T50 l0 x7_1).f0))).trans hx114_0; replace hx114_1 := (cell_far (p := ⟨gb111, 0, none⟩) (by first | (rw [add_block]; exact hn114_0) | (show (Addr.add _ _).block ≠ _; rw [add_block]; exact hn114_0) | exact hn114_0) (.string ((rd_T50 l0 x7_1).f0))).trans hx114_1; replace hx114_2 := (cell_far (p := ⟨gb111, 0, none⟩) (by first | (rw [add_block]; exact hn114_0) | (show (Addr.add _ _).block ≠ _; rw [add_block]; exact hn114_0) | exact hn114_0) (.string ((rd_T50 l0 x7_1).f0))).trans hx114_2; replace hx114_0 := (cell_far (p := ⟨gb111, 1, none⟩) (by first | (rw [add_block]; exact hn114_1) | (show (Addr.add _ _).block ≠ _; rw [add_block]; exact hn114_1) | exact hn114_1) (.bool true)).trans hx114_0; replace hx114_1 := (cell_far (p := ⟨gb111, 1, none⟩) (by first | (rw [add_block]; exact hn114_1) | (show (Addr.add _ _).block ≠ _; rw [add_block]; exact hn114_1) | exact hn114_1) (.bool true)).trans hx114_1; replace hx114_2 := (cell_far (p := ⟨gb111, 1, none⟩) (by first | (rw [add_block]; exact hn114_1) | (show (Addr.add _ _).block ≠ _; rw [add_block]; exact hn114_1) | exact hn114_1) (.bool true)).trans hx114_2; replace hx114_0 := (cell_far (p := ⟨gb111, 2, none⟩) (by first | (rw [add_block]; exact hn114_2) | (show (Addr.add _ _).block ≠ _; rw [add_block]; exact hn114_2) | exact hn114_2) (.bool false)).trans hx114_0; replace hx114_1 := (cell_far (p := ⟨gb111, 2, none⟩) (by first | (rw [add_block]; exact hn114_2) | (show (Addr.add _ _).block ≠ _; rw [add_block]; exact hn114_2) | exact hn114_2) (.bool false)).trans hx114_1; replace hx114_2 := (cell_far (p := ⟨gb111, 2, none⟩) (by first | (rw [add_block]; exact hn114_2) | (show (Addr.add _ _).block ≠ _; rw [add_block]; exact hn114_2) | exact hn114_2) (.bool false)).trans hx114_2; clear hn114_0; clear hn114_1; clear hn114_2; replace p114 := eq_true p114; replace q114 := eq_true q114; have p115 : 0 ≤ ((ji14) : Int) := of_decide_eq_true (by first | (with_reducible assumption) | assumption); have q115 : (ji14) < (l0.length : Int) := of_decide_eq_true (by first | (with_reducible assumption) | assumption); obtain ⟨ad115, e115, hx115_0, hx115_1, hx115_2⟩ := at_T50 HR0.out (ji14) p115 q115; (try rw [← Nbq5.out] at hx115_1); (try rw [← Nbq9.out] at hx115_1); (try rw [← Nbq16.out] at hx115_1); (try rw [← Nbq5.out] at hx115_2); (try rw [← Nbq9.out] at hx115_2); (try rw [← Nbq16.out] at hx115_2); obtain rfl : ad110 = ad115 := (by injection e115); have hn115_0 : ad110.block ≠ gb111 := Nat.ne_of_lt (Nat.lt_of_lt_of_le (by have := World.block_lt_of_cell? _ _ hx115_0; first | rwa [add_block] at this | exact this) GW111.out); have hn115_1 : ad110.block ≠ gb111 := Nat.ne_of_lt (Nat.lt_of_lt_of_le (by have := World.block_lt_of_cell? _ _ hx115_0; first | rwa [add_block] at this | exact this) GW111.out); have hn115_2 : ad110.block ≠ gb111 := Nat.ne_of_lt (Nat.lt_of_lt_of_le (by have := World.block_lt_of_cell? _ _ hx115_0; first | rwa [add_block] at this | exact this) GW111.out); replace hx115_0 := (HB.out.cell (World.block_lt_of_cell? w _ hx115_0)).trans hx115_0; replace hx115_1 := (HB.out.cell (World.block_lt_of_cell? w _ hx115_1)).trans hx115_1; replace hx115_2 := (HB.out.cell (World.block_lt_of_cell? w _ hx115_2)).trans hx115_2; replace hx115_0 := (cell_far (p := ⟨gb111, 0, none⟩) (by first | (rw [add_block]; exact hn115_0) | (show (Addr.add _ _).block ≠ _; rw [add_block]; exact hn115_0) | exact hn115_0) (.string ((rd_T50 l0 x7_1).f0))).trans hx115_0; replace hx115_1 := (cell_far (p := ⟨gb111, 0, none⟩) (by first | (rw [add_block]; exact hn115_0) | (show (Addr.add _ _).block ≠ _; rw [add_block]; exact hn115_0) | exact hn115_0) (.string ((rd_T50 l0 x7_1).f0))).trans hx115_1; replace hx115_2 := (cell_far (p := ⟨gb111, 0, none⟩) (by first | (rw [add_block]; exact hn115_0) | (show (Addr.add _ _).block ≠ _; rw [add_block]; exact hn115_0) | exact hn115_0) (.string ((rd_T50 l0 x7_1).f0))).trans hx115_2; replace hx115_0 := (cell_far (p := ⟨gb111, 1, none⟩) (by first | (rw [add_block]; exact hn115_1) | (show (Addr.add _ _).block ≠ _; rw [add_block]; exact hn115_1) | exact hn115_1) (.bool true)).trans hx115_0; replace hx115_1 := (cell_far (p := ⟨gb111, 1, none⟩) (by first | (rw [add_block]; exact hn115_1) | (show (Addr.add _ _).block ≠ _; rw [add_block]; exact hn115_1) | exact hn115_1) (.bool true)).trans hx115_1; replace hx115_2 := (cell_far (p := ⟨gb111, 1, none⟩) (by first | (rw [add_block]; exact hn115_1) | (show (Addr.add _ _).block ≠ _; rw [add_block]; exact hn115_1) | exact hn115_1) (.bool true)).trans hx115_2; replace hx115_0 := (cell_far (p := ⟨gb111, 2, none⟩) (by first | (rw [add_block]; exact hn115_2) | (show (Addr.add _ _).block ≠ _; rw [add_block]; exact hn115_2) | exact hn115_2) (.bool false)).trans hx115_0; replace hx115_1 := (cell_far (p := ⟨gb111, 2, none⟩) (by first | (rw [add_block]; exact hn115_2) | (show (Addr.add _ _).block ≠ _; rw [add_block]; exact hn115_2) | exact hn115_2) (.bool false)).trans hx115_1; replace hx115_2 := (cell_far (p := ⟨gb111, 2, none⟩) (by first | (rw [add_block]; exact hn115_2) | (show (Addr.add _ _).block ≠ _; rw [add_block]; exact hn115_2) | exact hn115_2) (.bool false)).trans hx115_2; clear hn115_0; clear hn115_1; clear hn115_2; replace p115 := eq_true p115; replace q115 := eq_true q115; have p116 : 0 ≤ ((ji14) : Int) := of_decide_eq_true (by first | (with_reducible assumption) | assumption); have q116 : (ji14) < (l0.length : Int) := of_decide_eq_true (by first | (with_reducible assumption) | assumption); obtain ⟨ad116, e116, hx116_0, hx116_1, hx116_2⟩ := at_T50 HR0.out (ji14) p116 q116; (try rw [← Nbq5.out] at hx116_1); (try rw [← Nbq9.out] at hx116_1); (try rw [← Nbq16.out] at hx116_1); (try rw [← Nbq5.out] at hx116_2); (try rw [← Nbq9.out] at hx116_2); (try rw [← Nbq16.out] at hx116_2); obtain rfl : ad110 = ad116 := (by injection e116); have hn116_0 : ad110.block ≠ gb111 := Nat.ne_of_lt (Nat.lt_of_lt_of_le (by have := World.block_lt_of_cell? _ _ hx116_0; first | rwa [add_block] at this | exact this) GW111.out); have hn116_1 : ad110.block ≠ gb111 := Nat.ne_of_lt (Nat.lt_of_lt_of_le (by have := World.block_lt_of_cell? _ _ hx116_0; first | rwa [add_block] at this | exact this) GW111.out); have hn116_2 : ad110.block ≠ gb111 := Nat.ne_of_lt (Nat.lt_of_lt_of_le (by have := World.block_lt_of_cell? _ _ hx116_0; first | rwa [add_block] at this | exact this) GW111.out); replace hx116_0 := (HB.out.cell (World.block_lt_of_cell? w _ hx116_0)).trans hx116_0; replace hx116_1 := (HB.out.cell (World.block_lt_of_cell? w _ hx116_1)).trans hx116_1; replace hx116_2 := (HB.out.cell (World.block_lt_of_cell? w _ hx116_2)).trans hx116_2; replace hx116_0 := (cell_far (p := ⟨gb111, 0, none⟩) (by first | (rw [add_block]; exact hn116_0) | (show (Addr.add _ _).block ≠ _; rw [add_block]; exact hn116_0) | exact hn116_0) (.string ((rd_T50 l0 x7_1).f0))).trans hx116_0; replace hx116_1 := (cell_far (p := ⟨gb111, 0, none⟩) (by first | (rw [add_block]; exact hn116_0) | (show (Addr.add _ _).block ≠ _; rw [add_block]; exact hn116_0) | exact hn116_0) (.string ((rd_T50 l0 x7_1).f0))).trans hx116_1; replace hx116_2 := (cell_far (p := ⟨gb111, 0, none⟩) (by first | (rw [add_block]; exact hn116_0) | (show (Addr.add _ _).block ≠ _; rw [add_block]; exact hn116_0) | exact hn116_0) (.string ((rd_T50 l0 x7_1).f0))).trans hx116_2; replace hx116_0 := (cell_far (p := ⟨gb111, 1, none⟩) (by first | (rw [add_block]; exact hn116_1) | (show (Addr.add _ _).block ≠ _; rw [add_block]; exact hn116_1) | exact hn116_1) (.bool true)).trans hx116_0; replace hx116_1 := (cell_far (p := ⟨gb111, 1, none⟩) (by first | (rw [add_block]; exact hn116_1) | (show (Addr.add _ _).block ≠ _; rw [add_block]; exact hn116_1) | exact hn116_1) (.bool true)).trans hx116_1; replace hx116_2 := (cell_far (p := ⟨gb111, 1, none⟩) (by first | (rw [add_block]; exact hn116_1) | (show (Addr.add _ _).block ≠ _; rw [add_block]; exact hn116_1) | exact hn116_1) (.bool true)).trans hx116_2; replace hx116_0 := (cell_far (p := ⟨gb111, 2, none⟩) (by first | (rw [add_block]; exact hn116_2) | (show (Addr.add _ _).block ≠ _; rw [add_block]; exact hn116_2) | exact hn116_2) (.bool false)).trans hx116_0; replace hx116_1 := (cell_far (p := ⟨gb111, 2, none⟩) (by first | (rw [add_block]; exact hn116_2) | (show (Addr.add _ _).block ≠ _; rw [add_block]; exact hn116_2) | exact hn116_2) (.bool false)).trans hx116_1; replace hx116_2 := (cell_far (p := ⟨gb111, 2, none⟩) (by first | (rw [add_block]; exact hn116_2) | (show (Addr.add _ _).block ≠ _; rw [add_block]; exact hn116_2) | exact hn116_2) (.bool false)).trans hx116_2; clear hn116_0; clear hn116_1; clear hn116_2; replace p116 := eq_true p116; replace q116 := eq_true q116; have p24 : 0 ≤ (0 : Int) := (by omega); have q24 : 0 < ((rd_T50 l0 (ji14)).f0).size := (by have : (0 : Int) < (((rd_T50 l0 (ji14)).f0).size : Int) := of_decide_eq_true (by first | (with_reducible assumption) | assumption); omega); have hx24 : ∀ h : 0 < ((rd_T50 l0 (ji14)).f0).size, ((((rd_T50 l0 (ji14)).f0)[0]'h).toNat : Int) = bt ((rd_T50 l0 (ji14)).f0) 0 := bt_at ((rd_T50 l0 (ji14)).f0) 0; clear p24; have qi24 : (0 < (((rd_T50 l0 (ji14)).f0).size : Int)) = True := eq_true (of_decide_eq_true (by first | (with_reducible assumption) | assumption)); replace q24 := eq_true q24) | (go_at_call 27; (with_reducible refine (spec_ScAlnum.calls (bt ((rd_T50 l0 (ji14)).f0) 0) false _ A25.out).mono ?_); rintro e w' ⟨rfl, ⟨nd, rfl⟩⟩))
                              go_roundg k1
                              case measure => have := HK1.out; omega
                              case rel => exact ⟨(ji14), (by first | rfl | (simp; done) | (simp only [← hji14] <;> (first | rfl | simp)) | (simp [*]; done)), H', ⟨by have := HK1.out; omega⟩, ⟨by repeat (first | (with_reducible first | exact HB.out | apply below_alloc | apply pw_below_drewN | apply below_drew1 | refine below_set ?_ GE111.out) | exact HB.out)⟩⟩
                          · rw [if_neg c23] at H
                            exact absurd H (by simp)
                    · rw [if_neg c15] at H
                      exact absurd H (by simp)
                  · rw [if_neg c13] at H
                    have c13b0 : decide ((wrap64 (x7_1 + 1)) < (l0.length : Int)) = false := decide_eq_false c13
                    clear c13
                    have H' := Aside0.mk H
                    clear H
                    have p110 : 0 ≤ (x7_1 : Int) := of_decide_eq_true (by first | (with_reducible assumption) | assumption)
                    have q110 : x7_1 < (l0.length : Int) := of_decide_eq_true (by first | (with_reducible assumption) | assumption)
                    obtain ⟨ad110, e110, hx110_0, hx110_1, hx110_2⟩ := at_T50 HR0.out x7_1 p110 q110
                    (try rw [← Nbq5.out] at hx110_1)
                    (try rw [← Nbq9.out] at hx110_1)
                    (try rw [← Nbq5.out] at hx110_2)
                    (try rw [← Nbq9.out] at hx110_2)
                    cases e110
                    replace hx110_0 := (HB.out.cell (World.block_lt_of_cell? w _ hx110_0)).trans hx110_0
                    replace hx110_1 := (HB.out.cell (World.block_lt_of_cell? w _ hx110_1)).trans hx110_1
                    replace hx110_2 := (HB.out.cell (World.block_lt_of_cell? w _ hx110_2)).trans hx110_2
                    replace p110 := eq_true p110
                    replace q110 := eq_true q110
                    go_wp2_with (first | ((with_reducible refine gate_dst (N := 4) rfl ?_); (try (refine gate_guard (by rfl) ?_; dsimp only)); refine box_event ?hg (N := 4) ?hd (cs := #[.string (⟨#[]⟩ : ByteArray), .bool false, .bool false]) (t := 50) ?hr ?_; (case hd => rfl); (case hg => rfl); (case hr => first | (go_simp; done) | (go_simp; rfl)); intro gb111 hg w31 hbox hb; have n0_ := Aside0.mk (below_step (by repeat (first | (with_reducible first | exact HB.out | apply below_alloc | apply pw_below_drewN | apply below_drew1) | exact HB.out)) hb); have n1_ := Aside0.mk (hbox); have n2_ := Aside0.mk ((by rw [hg]; exact (below_size (by repeat (first | (with_reducible first | exact HB.out | apply below_alloc | apply pw_below_drewN | apply below_drew1) | exact HB.out))) : w.heap.size ≤ gb111)); have n3_ := Aside0.mk ((by rw [hg]; exact (below_size (by repeat (first | (with_reducible first | exact HB.out | apply below_alloc | apply pw_below_drewN | apply below_drew1) | exact HB.out))) : w.heap.size ≤ gb111)); clear HB; have HB := n0_; have BK111 := n1_; have GW111 := n2_; have GE111 := n3_; clear n0_ n1_ n2_ n3_; clear hb hbox hg; have hcz32_0 : w31.cell? ⟨gb111, 0, none⟩ = some (.string (⟨#[]⟩ : ByteArray)) := (blk_cell BK111.out 0).trans rfl; have hcz32_1 : w31.cell? ⟨gb111, 1, none⟩ = some (.bool false) := (blk_cell BK111.out 1).trans rfl; have hcz32_2 : w31.cell? ⟨gb111, 2, none⟩ = some (.bool false) := (blk_cell BK111.out 2).trans rfl; have hfz32_0 := blk_frozen BK111.out 0; have hfz32_1 := blk_frozen BK111.out 1; have hfz32_2 := blk_frozen BK111.out 2) | ((with_reducible refine gate_callee (f := 13) rfl ?_); refine goesL_ (some 20) rfl rfl Try.func13 (by kernel_rfl) rfl #[.string ((rd_T50 l0 x7_1).f0)] rfl (by (try simp only [List.map_toArray, List.map_cons, List.map_nil]); first | done | rfl | (simp only [List.length_drop, List.length_take]; rfl)) ?_; (with_reducible refine (spec_ScVariable.calls k1 ((rd_T50 l0 x7_1).f0) true _ A7.out).mono ?_); rintro e w' ⟨rfl, ⟨nd, rfl⟩⟩; refine ⟨_, rfl, ?_⟩))
                    go_roundg k1
                    case measure => have := HK1.out; omega
                    case rel => exact ⟨(wrap64 (x7_1 + 1)), (by first | rfl | (simp; done) | (simp [*]; done)), H', ⟨by have := HK1.out; omega⟩, ⟨by repeat (first | (with_reducible first | exact HB.out | apply below_alloc | apply pw_below_drewN | apply below_drew1 | refine below_set ?_ GE111.out) | exact HB.out)⟩⟩
              · replace c8 := Bool.eq_false_iff.mpr c8
                subst c8
                have H1 : (some false) = some r := by rw [if_neg (show ¬ (false = true) by decide)] at H; exact H
                clear H
                have H := H1
                clear H1
                obtain rfl := Option.some.inj H
                have p110 : 0 ≤ (x7_1 : Int) := of_decide_eq_true (by first | (with_reducible assumption) | assumption)
                have q110 : x7_1 < (l0.length : Int) := of_decide_eq_true (by first | (with_reducible assumption) | assumption)
                obtain ⟨ad110, e110, hx110_0, hx110_1, hx110_2⟩ := at_T50 HR0.out x7_1 p110 q110
                (try rw [← Nbq5.out] at hx110_1)
                (try rw [← Nbq5.out] at hx110_2)
                cases e110
                replace hx110_0 := (HB.out.cell (World.block_lt_of_cell? w _ hx110_0)).trans hx110_0
                replace hx110_1 := (HB.out.cell (World.block_lt_of_cell? w _ hx110_1)).trans hx110_1
                replace hx110_2 := (HB.out.cell (World.block_lt_of_cell? w _ hx110_2)).trans hx110_2
                replace p110 := eq_true p110
                replace q110 := eq_true q110
                go_wp2_with (first | ((with_reducible refine gate_dst (N := 4) rfl ?_); (try (refine gate_guard (by rfl) ?_; dsimp only)); refine box_event ?hg (N := 4) ?hd (cs := #[.string (⟨#[]⟩ : ByteArray), .bool false, .bool false]) (t := 50) ?hr ?_; (case hd => rfl); (case hg => rfl); (case hr => first | (go_simp; done) | (go_simp; rfl)); intro gb111 hg w33 hbox hb; have n0_ := Aside0.mk (below_step (by repeat (first | (with_reducible first | exact HB.out | apply below_alloc | apply pw_below_drewN | apply below_drew1) | exact HB.out)) hb); have n1_ := Aside0.mk (hbox); have n2_ := Aside0.mk ((by rw [hg]; exact (below_size (by repeat (first | (with_reducible first | exact HB.out | apply below_alloc | apply pw_below_drewN | apply below_drew1) | exact HB.out))) : w.heap.size ≤ gb111)); have n3_ := Aside0.mk ((by rw [hg]; exact (below_size (by repeat (first | (with_reducible first | exact HB.out | apply below_alloc | apply pw_below_drewN | apply below_drew1) | exact HB.out))) : w.heap.size ≤ gb111)); clear HB; have HB := n0_; have BK111 := n1_; have GW111 := n2_; have GE111 := n3_; clear n0_ n1_ n2_ n3_; clear hb hbox hg; have hcz34_0 : w33.cell? ⟨gb111, 0, none⟩ = some (.string (⟨#[]⟩ : ByteArray)) := (blk_cell BK111.out 0).trans rfl; have hcz34_1 : w33.cell? ⟨gb111, 1, none⟩ = some (.bool false) := (blk_cell BK111.out 1).trans rfl; have hcz34_2 : w33.cell? ⟨gb111, 2, none⟩ = some (.bool false) := (blk_cell BK111.out 2).trans rfl; have hfz34_0 := blk_frozen BK111.out 0; have hfz34_1 := blk_frozen BK111.out 1; have hfz34_2 := blk_frozen BK111.out 2) | ((with_reducible refine gate_callee (f := 13) rfl ?_); refine goesL_ (some 20) rfl rfl Try.func13 (by kernel_rfl) rfl #[.string ((rd_T50 l0 x7_1).f0)] rfl (by (try simp only [List.map_toArray, List.map_cons, List.map_nil]); first | done | rfl | (simp only [List.length_drop, List.length_take]; rfl)) ?_; (with_reducible refine (spec_ScVariable.calls k1 ((rd_T50 l0 x7_1).f0) false _ A7.out).mono ?_); rintro e w' ⟨rfl, ⟨nd, rfl⟩⟩; refine ⟨_, rfl, ?_⟩))
                go_ret
                exact ⟨by first | rfl | (simp [errW_none, errW_some] <;> rfl) | (simp [*, errW_none, errW_some] <;> rfl), by repeat (first | (with_reducible first | exact HB.out | apply below_alloc | apply pw_below_drewN | apply below_drew1 | refine below_set ?_ GE111.out) | exact HB.out)⟩
            · replace c6 := Bool.eq_false_iff.mpr c6
              subst c6
              have H1 : ((spec_ScHas.f k1 ((rd_T50 l0 x7_1).f0) 36).bind fun t112 => (if t112 = true then (some false) else (spec_ScParts.l0 k1 l0 l0 (l0.length : Int) (wrap64 (x7_1 + 1))))) = some r := by rw [if_neg (show ¬ (false = true) by decide)] at H; exact H
              clear H
              have H := H1
              clear H1
              replace H := Option.bind_eq_some_iff.mp H
              obtain ⟨t112, A350, H⟩ := H
              replace H : (if t112 = true then (some false) else (spec_ScParts.l0 k1 l0 l0 (l0.length : Int) (wrap64 (x7_1 + 1)))) = some r := H
              have A35 := Aside0.mk A350
              clear A350
              by_cases c36 : t112 = true
              · subst c36
                have H1 : (some false) = some r := by rw [if_pos rfl] at H; exact H
                clear H
                have H := H1
                clear H1
                obtain rfl := Option.some.inj H
                have p110 : 0 ≤ (x7_1 : Int) := of_decide_eq_true (by first | (with_reducible assumption) | assumption)
                have q110 : x7_1 < (l0.length : Int) := of_decide_eq_true (by first | (with_reducible assumption) | assumption)
                obtain ⟨ad110, e110, hx110_0, hx110_1, hx110_2⟩ := at_T50 HR0.out x7_1 p110 q110
                (try rw [← Nbq5.out] at hx110_1)
                (try rw [← Nbq5.out] at hx110_2)
                cases e110
                replace hx110_0 := (HB.out.cell (World.block_lt_of_cell? w _ hx110_0)).trans hx110_0
                replace hx110_1 := (HB.out.cell (World.block_lt_of_cell? w _ hx110_1)).trans hx110_1
                replace hx110_2 := (HB.out.cell (World.block_lt_of_cell? w _ hx110_2)).trans hx110_2
                replace p110 := eq_true p110
                replace q110 := eq_true q110
                go_wp2_with (first | ((with_reducible refine gate_dst (N := 4) rfl ?_); (try (refine gate_guard (by rfl) ?_; dsimp only)); refine box_event ?hg (N := 4) ?hd (cs := #[.string (⟨#[]⟩ : ByteArray), .bool false, .bool false]) (t := 50) ?hr ?_; (case hd => rfl); (case hg => rfl); (case hr => first | (go_simp; done) | (go_simp; rfl)); intro gb111 hg w37 hbox hb; have n0_ := Aside0.mk (below_step (by repeat (first | (with_reducible first | exact HB.out | apply below_alloc | apply pw_below_drewN | apply below_drew1) | exact HB.out)) hb); have n1_ := Aside0.mk (hbox); have n2_ := Aside0.mk ((by rw [hg]; exact (below_size (by repeat (first | (with_reducible first | exact HB.out | apply below_alloc | apply pw_below_drewN | apply below_drew1) | exact HB.out))) : w.heap.size ≤ gb111)); have n3_ := Aside0.mk ((by rw [hg]; exact (below_size (by repeat (first | (with_reducible first | exact HB.out | apply below_alloc | apply pw_below_drewN | apply below_drew1) | exact HB.out))) : w.heap.size ≤ gb111)); clear HB; have HB := n0_; have BK111 := n1_; have GW111 := n2_; have GE111 := n3_; clear n0_ n1_ n2_ n3_; clear hb hbox hg; have hcz38_0 : w37.cell? ⟨gb111, 0, none⟩ = some (.string (⟨#[]⟩ : ByteArray)) := (blk_cell BK111.out 0).trans rfl; have hcz38_1 : w37.cell? ⟨gb111, 1, none⟩ = some (.bool false) := (blk_cell BK111.out 1).trans rfl; have hcz38_2 : w37.cell? ⟨gb111, 2, none⟩ = some (.bool false) := (blk_cell BK111.out 2).trans rfl; have hfz38_0 := blk_frozen BK111.out 0; have hfz38_1 := blk_frozen BK111.out 1; have hfz38_2 := blk_frozen BK111.out 2) | ((with_reducible refine gate_callee (f := 11) rfl ?_); refine goesL_ (some 17) rfl rfl Try.func11 (by kernel_rfl) rfl #[.string ((rd_T50 l0 x7_1).f0), .int .u8 36] rfl (by (try simp only [List.map_toArray, List.map_cons, List.map_nil]); first | done | rfl | (simp only [List.length_drop, List.length_take]; rfl)) ?_; (with_reducible refine (spec_ScHas.calls k1 ((rd_T50 l0 x7_1).f0) 36 true _ A35.out).mono ?_); rintro e w' ⟨rfl, ⟨nd, rfl⟩⟩; refine ⟨_, rfl, ?_⟩))
                go_ret
                exact ⟨by first | rfl | (simp [errW_none, errW_some] <;> rfl) | (simp [*, errW_none, errW_some] <;> rfl), by repeat (first | (with_reducible first | exact HB.out | apply below_alloc | apply pw_below_drewN | apply below_drew1 | refine below_set ?_ GE111.out) | exact HB.out)⟩
              · replace c36 := Bool.eq_false_iff.mpr c36
                subst c36
                have H1 : (spec_ScParts.l0 k1 l0 l0 (l0.length : Int) (wrap64 (x7_1 + 1))) = some r := by rw [if_neg (show ¬ (false = true) by decide)] at H; exact H
                clear H
                have H := H1
                clear H1
                have H' := Aside0.mk H
                clear H
                have p110 : 0 ≤ (x7_1 : Int) := of_decide_eq_true (by first | (with_reducible assumption) | assumption)
                have q110 : x7_1 < (l0.length : Int) := of_decide_eq_true (by first | (with_reducible assumption) | assumption)
                obtain ⟨ad110, e110, hx110_0, hx110_1, hx110_2⟩ := at_T50 HR0.out x7_1 p110 q110
                (try rw [← Nbq5.out] at hx110_1)
                (try rw [← Nbq5.out] at hx110_2)
                cases e110
                replace hx110_0 := (HB.out.cell (World.block_lt_of_cell? w _ hx110_0)).trans hx110_0
                replace hx110_1 := (HB.out.cell (World.block_lt_of_cell? w _ hx110_1)).trans hx110_1
                replace hx110_2 := (HB.out.cell (World.block_lt_of_cell? w _ hx110_2)).trans hx110_2
                replace p110 := eq_true p110
                replace q110 := eq_true q110
                go_wp2_with (first | ((with_reducible refine gate_dst (N := 4) rfl ?_); (try (refine gate_guard (by rfl) ?_; dsimp only)); refine box_event ?hg (N := 4) ?hd (cs := #[.string (⟨#[]⟩ : ByteArray), .bool false, .bool false]) (t := 50) ?hr ?_; (case hd => rfl); (case hg => rfl); (case hr => first | (go_simp; done) | (go_simp; rfl)); intro gb111 hg w39 hbox hb; have n0_ := Aside0.mk (below_step (by repeat (first | (with_reducible first | exact HB.out | apply below_alloc | apply pw_below_drewN | apply below_drew1) | exact HB.out)) hb); have n1_ := Aside0.mk (hbox); have n2_ := Aside0.mk ((by rw [hg]; exact (below_size (by repeat (first | (with_reducible first | exact HB.out | apply below_alloc | apply pw_below_drewN | apply below_drew1) | exact HB.out))) : w.heap.size ≤ gb111)); have n3_ := Aside0.mk ((by rw [hg]; exact (below_size (by repeat (first | (with_reducible first | exact HB.out | apply below_alloc | apply pw_below_drewN | apply below_drew1) | exact HB.out))) : w.heap.size ≤ gb111)); clear HB; have HB := n0_; have BK111 := n1_; have GW111 := n2_; have GE111 := n3_; clear n0_ n1_ n2_ n3_; clear hb hbox hg; have hcz40_0 : w39.cell? ⟨gb111, 0, none⟩ = some (.string (⟨#[]⟩ : ByteArray)) := (blk_cell BK111.out 0).trans rfl; have hcz40_1 : w39.cell? ⟨gb111, 1, none⟩ = some (.bool false) := (blk_cell BK111.out 1).trans rfl; have hcz40_2 : w39.cell? ⟨gb111, 2, none⟩ = some (.bool false) := (blk_cell BK111.out 2).trans rfl; have hfz40_0 := blk_frozen BK111.out 0; have hfz40_1 := blk_frozen BK111.out 1; have hfz40_2 := blk_frozen BK111.out 2) | ((with_reducible refine gate_callee (f := 11) rfl ?_); refine goesL_ (some 17) rfl rfl Try.func11 (by kernel_rfl) rfl #[.string ((rd_T50 l0 x7_1).f0), .int .u8 36] rfl (by (try simp only [List.map_toArray, List.map_cons, List.map_nil]); first | done | rfl | (simp only [List.length_drop, List.length_take]; rfl)) ?_; (with_reducible refine (spec_ScHas.calls k1 ((rd_T50 l0 x7_1).f0) 36 false _ A35.out).mono ?_); rintro e w' ⟨rfl, ⟨nd, rfl⟩⟩; refine ⟨_, rfl, ?_⟩))
                go_roundg k1
                case measure => have := HK1.out; omega
                case rel => exact ⟨(wrap64 (x7_1 + 1)), (by first | rfl | (simp; done) | (simp [*]; done)), H', ⟨by have := HK1.out; omega⟩, ⟨by repeat (first | (with_reducible first | exact HB.out | apply below_alloc | apply pw_below_drewN | apply below_drew1 | refine below_set ?_ GE111.out) | exact HB.out)⟩⟩
          · rw [if_neg c4] at H
            exact absurd H (by simp)
        · rw [if_neg c3] at H
          exact absurd H (by simp)
      · rw [if_neg c2] at H
        have c2b0 : decide (x7_1 < (l0.length : Int)) = false := decide_eq_false c2
        clear c2
        obtain rfl := Option.some.inj H
        go_wp2
        go_ret
        exact ⟨by first | rfl | (simp [errW_none, errW_some] <;> rfl) | (simp [*, errW_none, errW_some] <;> rfl), by repeat (first | (with_reducible first | exact HB.out | apply below_alloc | apply pw_below_drewN | apply below_drew1) | exact HB.out)⟩


/-! ### spec_ScValue: function 29 -/
def spec_ScValue.l0 : Nat → List ByteArray → ByteArray → List ByteArray → Int → Int → Option (ByteArray)
  | 0, _, _, _, _, _ => none
  | k + 1, x1, x2, x9, x10, x11 => if x11 < x10 then (if 0 ≤ x11 then (if x11 < (x9.length : Int) then (if (rdOf ByteArray.empty x9 x11).toList = x2.toList then (if x11 < (x1.length : Int) then (some (rdOf ByteArray.empty x1 x11)) else (none)) else (spec_ScValue.l0 k x1 x2 x9 x10 (wrap64 (x11 + 1)))) else (none)) else (none)) else (some (⟨#[]⟩ : ByteArray))
def spec_ScValue.f (k : Nat) (l0 : List ByteArray) (l1 : List ByteArray) (a2 : ByteArray) : Option (ByteArray) := spec_ScValue.l0 k l1 a2 l0 (l0.length : Int) 0
theorem spec_ScValue.mono_l : ∀ k, (∀ y0 y1 y2 y3 y4, LeO (spec_ScValue.l0 k y0 y1 y2 y3 y4) (spec_ScValue.l0 (k + 1) y0 y1 y2 y3 y4))
  | 0 => fun _ _ _ _ _ r h => by simp [spec_ScValue.l0] at h
  | k + 1 => by
    have ih0 := spec_ScValue.mono_l k
    · intro y0 y1 y2 y3 y4
      unfold spec_ScValue.l0
      repeat' first
      | (with_reducible exact ih0 _ _ _ _ _)
      | (with_reducible exact LeO.refl _)
      | (with_reducible exact LeO.none _)
      | (with_reducible refine LeO.ite ?_ ?_)
      | (with_reducible refine LeO.bind ?_ (fun _ => ?_))
      | exact ih0 _ _ _ _ _
      | exact LeO.none _
      | refine LeO.ite ?_ ?_
      | refine LeO.bind ?_ (fun _ => ?_)
theorem spec_ScValue.mono : ∀ a0 a1 a2 k, LeO (spec_ScValue.f k a0 a1 a2) (spec_ScValue.f (k + 1) a0 a1 a2) := by
  intro a0 a1 a2 k
  have ih0 := spec_ScValue.mono_l k
  unfold spec_ScValue.f
  repeat' first
      | (with_reducible exact ih0 _ _ _ _ _)
      | (with_reducible exact LeO.refl _)
      | (with_reducible exact LeO.none _)
      | (with_reducible refine LeO.ite ?_ ?_)
      | (with_reducible refine LeO.bind ?_ (fun _ => ?_))
      | exact ih0 _ _ _ _ _
      | exact LeO.none _
      | refine LeO.ite ?_ ?_
      | refine LeO.bind ?_ (fun _ => ?_)
set_option maxHeartbeats 8000000 in
set_option maxRecDepth 100000 in
theorem spec_ScValue.calls (k : Nat) (A0 : Option Addr) (c0 : Nat) (l0 : List ByteArray) (A1 : Option Addr) (c1 : Nat) (l1 : List ByteArray) (a2 : ByteArray) (r : ByteArray) (w : World) (hr0 : Kd.C Kd.string w A0 l0.length l0) (hc0 : l0.length ≤ c0) (hr1 : Kd.C Kd.string w A1 l1.length l1) (hc1 : l1.length ≤ c1) (h : spec_ScValue.f k l0 l1 a2 = some r) :
    Calls Try.prog 29 #[.slice A0 l0.length c0, .slice A1 l1.length c1, .string a2] w fun e w' => e = .returned (.string r) ∧ Drawn0 w w' := by
  have HR0 := Aside0.mk hr0
  have HC0 := Aside0.mk hc0
  clear hr0 hc0
  have HR1 := Aside0.mk hr1
  have HC1 := Aside0.mk hc1
  clear hr1 hc1
  have H : (spec_ScValue.l0 k l1 a2 l0 (l0.length : Int) 0) = some r := h
  clear h
  have H' := Aside0.mk H
  clear H
  go_enter Try.func29, Try.ntmps29
  go_wp2
  go_loopg [11] k (fun kq v11 w' => ∃ (x11_1 : Int), v11 = .int .i64 x11_1 ∧ Aside0 (spec_ScValue.l0 kq l1 a2 l0 (l0.length : Int) x11_1 = some r) ∧ Aside0 (kq ≤ k) ∧ Drawn0 w w')
  case atStart => exact ⟨(0), (by first | rfl | (simp; done) | (simp [*]; done)), H', ⟨Nat.le_refl _⟩, by repeat (first | exact Drawn0.refl _ | apply Drawn0.step)⟩
  case round =>
    clear H'
    try clear c1
    try clear c2
    try clear p2
    obtain ⟨x11_1, rfl, HA, HK1, ⟨m1, rfl⟩⟩ := hrel
    cases gk with
    | zero => exact absurd HA.out (by simp [spec_ScValue.l0])
    | succ k1 =>
      have H := HA.out
      clear HA
      simp only [spec_ScValue.l0] at H
      by_cases c4 : x11_1 < (l0.length : Int)
      · rw [if_pos c4] at H
        have c4b0 : decide (x11_1 < (l0.length : Int)) = true := decide_eq_true c4
        clear c4
        by_cases c5 : 0 ≤ x11_1
        · rw [if_pos c5] at H
          have c5b0 : decide (0 ≤ x11_1) = true := decide_eq_true c5
          clear c5
          by_cases c6 : x11_1 < (l0.length : Int)
          · rw [if_pos c6] at H
            have c6b0 : decide (x11_1 < (l0.length : Int)) = true := decide_eq_true c6
            clear c6
            by_cases c7 : (rdOf ByteArray.empty l0 x11_1).toList = a2.toList
            · rw [if_pos c7] at H
              have c7b0 : ((rdOf ByteArray.empty l0 x11_1).toList == a2.toList) = true := beq_iff_eq.mpr c7
              have c7b1 : ((rdOf ByteArray.empty l0 x11_1).toList != a2.toList) = false := bne_eq_false_iff_eq.mpr c7
              clear c7
              by_cases c8 : x11_1 < (l1.length : Int)
              · rw [if_pos c8] at H
                have c8b0 : decide (x11_1 < (l1.length : Int)) = true := decide_eq_true c8
                clear c8
                obtain rfl := Option.some.inj H
                have p148 : 0 ≤ (x11_1 : Int) := of_decide_eq_true (by first | (with_reducible assumption) | assumption)
                have q148 : x11_1 < (l0.length : Int) := of_decide_eq_true (by first | (with_reducible assumption) | assumption)
                obtain ⟨ad148, e148, hx148_0⟩ := Kd.at_string HR0.out x11_1 p148 q148
                cases e148
                replace p148 := eq_true p148
                replace q148 := eq_true q148
                have p149 : 0 ≤ (x11_1 : Int) := of_decide_eq_true (by first | (with_reducible assumption) | assumption)
                have q149 : x11_1 < (l1.length : Int) := of_decide_eq_true (by first | (with_reducible assumption) | assumption)
                obtain ⟨ad149, e149, hx149_0⟩ := Kd.at_string HR1.out x11_1 p149 q149
                cases e149
                replace p149 := eq_true p149
                replace q149 := eq_true q149
                go_wp2
                go_ret
                exact ⟨by first | rfl | (simp; done) | (simp [*]; done), by repeat (first | exact Drawn0.refl _ | apply Drawn0.step)⟩
              · rw [if_neg c8] at H
                exact absurd H (by simp)
            · rw [if_neg c7] at H
              have c7b0 : ((rdOf ByteArray.empty l0 x11_1).toList == a2.toList) = false := beq_eq_false_iff_ne.mpr c7
              have c7b1 : ((rdOf ByteArray.empty l0 x11_1).toList != a2.toList) = true := bne_iff_ne.mpr c7
              have H' := Aside0.mk H
              clear H
              have p148 : 0 ≤ (x11_1 : Int) := of_decide_eq_true (by first | (with_reducible assumption) | assumption)
              have q148 : x11_1 < (l0.length : Int) := of_decide_eq_true (by first | (with_reducible assumption) | assumption)
              obtain ⟨ad148, e148, hx148_0⟩ := Kd.at_string HR0.out x11_1 p148 q148
              cases e148
              replace p148 := eq_true p148
              replace q148 := eq_true q148
              go_wp2
              go_roundg k1
              case measure => have := HK1.out; omega
              case rel => exact ⟨(wrap64 (x11_1 + 1)), (by first | rfl | (simp; done) | (simp [*]; done)), H', ⟨by have := HK1.out; omega⟩, by repeat (first | exact Drawn0.refl _ | apply Drawn0.step)⟩
          · rw [if_neg c6] at H
            exact absurd H (by simp)
        · rw [if_neg c5] at H
          exact absurd H (by simp)
      · rw [if_neg c4] at H
        have c4b0 : decide (x11_1 < (l0.length : Int)) = false := decide_eq_false c4
        clear c4
        obtain rfl := Option.some.inj H
        go_wp2
        go_ret
        exact ⟨by first | rfl | (simp; done) | (simp [*]; done), by repeat (first | exact Drawn0.refl _ | apply Drawn0.step)⟩


/-! ### spec_ScExpanded: function 19 -/
def spec_ScExpanded.l0 : Nat → List ByteArray → List ByteArray → List Int → List (S50) → Int → Int → Option (ByteArray)
  | 0, _, _, _, _, _, _ => none
  | k + 1, x1, x2, x7, x10, x11, x12 => if x12 < x11 then (if 0 ≤ x12 then (if x12 < (x10.length : Int) then (if (rd_T50 x10 x12).f1 = true then ((spec_ScValue.f k x1 x2 ((rd_T50 x10 x12).f0)).bind fun t152 => (if x7.length + t152.size < 140737488355328 then (spec_ScExpanded.l0 k x1 x2 (x7 ++ bytesOf t152) x10 x11 (wrap64 (x12 + 1))) else (none))) else (if x7.length + ((rd_T50 x10 x12).f0).size < 140737488355328 then (spec_ScExpanded.l0 k x1 x2 (x7 ++ bytesOf ((rd_T50 x10 x12).f0)) x10 x11 (wrap64 (x12 + 1))) else (none))) else (none)) else (none)) else (some (strOfNums x7))
def spec_ScExpanded.f (k : Nat) (l0 : List (S50)) (l1 : List ByteArray) (l2 : List ByteArray) : Option (ByteArray) := spec_ScExpanded.l0 k l1 l2 ([] : List Int) l0 (l0.length : Int) 0
theorem spec_ScExpanded.mono_l : ∀ k, (∀ y0 y1 y2 y3 y4 y5, LeO (spec_ScExpanded.l0 k y0 y1 y2 y3 y4 y5) (spec_ScExpanded.l0 (k + 1) y0 y1 y2 y3 y4 y5))
  | 0 => fun _ _ _ _ _ _ r h => by simp [spec_ScExpanded.l0] at h
  | k + 1 => by
    have ih0 := spec_ScExpanded.mono_l k
    · intro y0 y1 y2 y3 y4 y5
      unfold spec_ScExpanded.l0
      repeat' first
      | (with_reducible exact ih0 _ _ _ _ _ _)
      | (with_reducible exact spec_ScValue.mono _ _ _ _)
      | (with_reducible exact LeO.refl _)
      | (with_reducible exact LeO.none _)
      | (with_reducible refine LeO.ite ?_ ?_)
      | (with_reducible refine LeO.bind ?_ (fun _ => ?_))
      | exact ih0 _ _ _ _ _ _
      | exact spec_ScValue.mono _ _ _ _
      | exact LeO.none _
      | refine LeO.ite ?_ ?_
      | refine LeO.bind ?_ (fun _ => ?_)
theorem spec_ScExpanded.mono : ∀ a0 a1 a2 k, LeO (spec_ScExpanded.f k a0 a1 a2) (spec_ScExpanded.f (k + 1) a0 a1 a2) := by
  intro a0 a1 a2 k
  have ih0 := spec_ScExpanded.mono_l k
  unfold spec_ScExpanded.f
  repeat' first
      | (with_reducible exact ih0 _ _ _ _ _ _)
      | (with_reducible exact spec_ScValue.mono _ _ _ _)
      | (with_reducible exact LeO.refl _)
      | (with_reducible exact LeO.none _)
      | (with_reducible refine LeO.ite ?_ ?_)
      | (with_reducible refine LeO.bind ?_ (fun _ => ?_))
      | exact ih0 _ _ _ _ _ _
      | exact spec_ScValue.mono _ _ _ _
      | exact LeO.none _
      | refine LeO.ite ?_ ?_
      | refine LeO.bind ?_ (fun _ => ?_)
set_option maxHeartbeats 8000000 in
set_option maxRecDepth 100000 in
theorem spec_ScExpanded.calls (k : Nat) (A0 : Option Addr) (c0 : Nat) (l0 : List (S50)) (A1 : Option Addr) (c1 : Nat) (l1 : List ByteArray) (A2 : Option Addr) (c2 : Nat) (l2 : List ByteArray) (r : ByteArray) (w : World) (hr0 : Kd.C k50 w A0 l0.length l0) (hc0 : l0.length ≤ c0) (hr1 : Kd.C Kd.string w A1 l1.length l1) (hc1 : l1.length ≤ c1) (hr2 : Kd.C Kd.string w A2 l2.length l2) (hc2 : l2.length ≤ c2) (h : spec_ScExpanded.f k l0 l1 l2 = some r) :
    Calls Try.prog 19 #[.slice A0 l0.length c0, .slice A1 l1.length c1, .slice A2 l2.length c2] w fun e w' => e = .returned (.string r) ∧ Below w.heap.size w w' := by
  have hu50 := Try.underlying50
  have HR0 := Aside0.mk hr0
  have HC0 := Aside0.mk hc0
  clear hr0 hc0
  have HR1 := Aside0.mk hr1
  have HC1 := Aside0.mk hc1
  clear hr1 hc1
  have HR2 := Aside0.mk hr2
  have HC2 := Aside0.mk hc2
  clear hr2 hc2
  have HB := Aside0.mk (Below.refl w.heap.size w)
  have H : (spec_ScExpanded.l0 k l1 l2 ([] : List Int) l0 (l0.length : Int) 0) = some r := h
  clear h
  have H' := Aside0.mk H
  clear H
  go_enter Try.func19, Try.ntmps19
  go_wp2
  go_loopg [7, 12] k (fun kq v7 v12 w' => ∃ (x7_1 : List Int) (x12_1 : Int), v12 = .int .i64 x12_1 ∧ Aside0 (spec_ScExpanded.l0 kq l1 l2 x7_1 l0 (l0.length : Int) x12_1 = some r) ∧ Aside0 (kq ≤ k) ∧ Aside0 (Kd.R (Kd.int .u8) 5 w' w.heap.size (fun _ => True) v7 x7_1) ∧ Aside0 (Below w.heap.size w w'))
  case atStart => exact ⟨(([] : List Int)), (0), (by first | rfl | (simp; done) | (simp [*]; done)), H', ⟨Nat.le_refl _⟩, ⟨by first | exact Kd.R_nil _ _ _ _ _ | exact Kd.N_nil _ _ _ _ _ | exact Kd.V_nil _ _ _ _ _ | exact Kd.Q_nil _ _ _ _ _ | exact Kd.S_nil _ _ _ _ _⟩, ⟨by repeat (first | (with_reducible first | exact HB.out | apply below_alloc | apply pw_below_drewN | apply below_drew1) | exact HB.out)⟩⟩
  case round =>
    clear H'
    try clear c1
    try clear c2
    try clear p2
    obtain ⟨x7_1, x12_1, rfl, HA, HK1, HO_7, HB⟩ := hrel
    cases gk with
    | zero => exact absurd HA.out (by simp [spec_ScExpanded.l0])
    | succ k1 =>
      have H := HA.out
      clear HA
      simp only [spec_ScExpanded.l0] at H
      by_cases c4 : x12_1 < (l0.length : Int)
      · rw [if_pos c4] at H
        have c4b0 : decide (x12_1 < (l0.length : Int)) = true := decide_eq_true c4
        clear c4
        by_cases c5 : 0 ≤ x12_1
        · rw [if_pos c5] at H
          have c5b0 : decide (0 ≤ x12_1) = true := decide_eq_true c5
          clear c5
          by_cases c6 : x12_1 < (l0.length : Int)
          · rw [if_pos c6] at H
            have c6b0 : decide (x12_1 < (l0.length : Int)) = true := decide_eq_true c6
            clear c6
            obtain ⟨bq7, hbq7⟩ : ∃ b_ : Bool, b_ = ((rd_T50 l0 x12_1).f1) := ⟨_, rfl⟩
            replace H : (if bq7 = true then ((spec_ScValue.f k1 l1 l2 ((rd_T50 l0 x12_1).f0)).bind fun t152 => (if x7_1.length + t152.size < 140737488355328 then (spec_ScExpanded.l0 k1 l1 l2 (x7_1 ++ bytesOf t152) l0 (l0.length : Int) (wrap64 (x12_1 + 1))) else (none))) else (if x7_1.length + ((rd_T50 l0 x12_1).f0).size < 140737488355328 then (spec_ScExpanded.l0 k1 l1 l2 (x7_1 ++ bytesOf ((rd_T50 l0 x12_1).f0)) l0 (l0.length : Int) (wrap64 (x12_1 + 1))) else (none))) = some r := by rw [← hbq7] at H; exact H
            have Nbq7 := Aside0.mk hbq7
            clear hbq7
            by_cases c8 : bq7 = true
            · subst c8
              have H1 : ((spec_ScValue.f k1 l1 l2 ((rd_T50 l0 x12_1).f0)).bind fun t152 => (if x7_1.length + t152.size < 140737488355328 then (spec_ScExpanded.l0 k1 l1 l2 (x7_1 ++ bytesOf t152) l0 (l0.length : Int) (wrap64 (x12_1 + 1))) else (none))) = some r := by rw [if_pos rfl] at H; exact H
              clear H
              have H := H1
              clear H1
              replace H := Option.bind_eq_some_iff.mp H
              obtain ⟨t152, A90, H⟩ := H
              replace H : (if x7_1.length + t152.size < 140737488355328 then (spec_ScExpanded.l0 k1 l1 l2 (x7_1 ++ bytesOf t152) l0 (l0.length : Int) (wrap64 (x12_1 + 1))) else (none)) = some r := H
              have A9 := Aside0.mk A90
              clear A90
              by_cases c10 : x7_1.length + t152.size < 140737488355328
              · rw [if_pos c10] at H
                have LMc10 := Aside0.mk c10
                clear c10
                obtain ⟨y153, hy153⟩ : ∃ y_ : List Int, y_ = (x7_1 ++ bytesOf t152) := ⟨_, rfl⟩
                replace H : (spec_ScExpanded.l0 k1 l1 l2 y153 l0 (l0.length : Int) (wrap64 (x12_1 + 1))) = some r := by first | (rw [hy153]; with_reducible exact H) | (have H2_ := (Option.bind_some _ _).symm.trans H; rw [hy153]; with_reducible exact H2_) | (have H2_ := (Option.bind_some _ _).symm.trans H; with_reducible exact H2_) | with_reducible exact H | (rw [hy153]; exact H) | exact H
                have Ny153 := Aside0.mk hy153
                clear hy153
                have H' := Aside0.mk H
                clear H
                have p150 : 0 ≤ (x12_1 : Int) := of_decide_eq_true (by first | (with_reducible assumption) | assumption)
                have q150 : x12_1 < (l0.length : Int) := of_decide_eq_true (by first | (with_reducible assumption) | assumption)
                obtain ⟨ad150, e150, hx150_0, hx150_1, hx150_2⟩ := at_T50 HR0.out x12_1 p150 q150
                (try rw [← Nbq7.out] at hx150_1)
                (try rw [← Nbq7.out] at hx150_2)
                cases e150
                replace hx150_0 := (HB.out.cell (World.block_lt_of_cell? w _ hx150_0)).trans hx150_0
                replace hx150_1 := (HB.out.cell (World.block_lt_of_cell? w _ hx150_1)).trans hx150_1
                replace hx150_2 := (HB.out.cell (World.block_lt_of_cell? w _ hx150_2)).trans hx150_2
                replace p150 := eq_true p150
                replace q150 := eq_true q150
                go_wp2_with (first | ((with_reducible refine gate_dst (N := 9) rfl ?_); refine box_event ?hg (N := 9) ?hd (cs := #[.string (⟨#[]⟩ : ByteArray), .bool false, .bool false]) (t := 50) ?hr ?_; (case hd => rfl); (case hg => rfl); (case hr => first | (go_simp; done) | (go_simp; rfl)); intro gb151 hg w11 hbox hb; have n0_ := Aside0.mk (Kd.R_below (by (with_reducible repeat (first | apply Kd.R_alloc | apply Kd.R_drewN | apply Kd.R_drew)); exact HO_7.out) hb); have n1_ := Aside0.mk (below_step (by repeat (first | (with_reducible first | exact HB.out | apply below_alloc | apply pw_below_drewN | apply below_drew1) | exact HB.out)) hb); have n2_ := Aside0.mk (hbox); have n3_ := Aside0.mk ((by rw [hg]; exact (below_size (by repeat (first | (with_reducible first | exact HB.out | apply below_alloc | apply pw_below_drewN | apply below_drew1) | exact HB.out))) : w.heap.size ≤ gb151)); have n4_ := Aside0.mk ((by rw [hg]; exact (below_size (by repeat (first | (with_reducible first | exact HB.out | apply below_alloc | apply pw_below_drewN | apply below_drew1) | exact HB.out))) : w.heap.size ≤ gb151)); clear HO_7; clear HB; have HO_7 := n0_; have HB := n1_; have BK151 := n2_; have GW151 := n3_; have GE151 := n4_; clear n0_ n1_ n2_ n3_ n4_; clear hb hbox hg; have hcz12_0 : w11.cell? ⟨gb151, 0, none⟩ = some (.string (⟨#[]⟩ : ByteArray)) := (blk_cell BK151.out 0).trans rfl; have hcz12_1 : w11.cell? ⟨gb151, 1, none⟩ = some (.bool false) := (blk_cell BK151.out 1).trans rfl; have hcz12_2 : w11.cell? ⟨gb151, 2, none⟩ = some (.bool false) := (blk_cell BK151.out 2).trans rfl; have hfz12_0 := blk_frozen BK151.out 0; have hfz12_1 := blk_frozen BK151.out 1; have hfz12_2 := blk_frozen BK151.out 2) | ((with_reducible refine gate_callee (f := 29) rfl ?_); refine goesL_ (some 23) rfl rfl Try.func29 (by kernel_rfl) rfl #[.slice A1 l1.length c1, .slice A2 l2.length c2, .string ((rd_T50 l0 x12_1).f0)] rfl (by (try simp only [List.map_toArray, List.map_cons, List.map_nil]); first | done | rfl | (simp only [List.length_drop, List.length_take]; rfl)) ?_; (with_reducible refine (spec_ScValue.calls k1 _ _ l1 _ _ l2 ((rd_T50 l0 x12_1).f0) t152 _ ?side1 ?side2 ?side3 ?side4 A9.out).mono ?_); (case side1 => exact Kd.C_below HR1.out (by repeat (first | (with_reducible first | exact HB.out | apply below_alloc | apply pw_below_drewN | apply below_drew1 | refine below_set ?_ GE151.out) | exact HB.out))); (case side2 => exact HC1.out); (case side3 => exact Kd.C_below HR2.out (by repeat (first | (with_reducible first | exact HB.out | apply below_alloc | apply pw_below_drewN | apply below_drew1 | refine below_set ?_ GE151.out) | exact HB.out))); (case side4 => exact HC2.out); rintro e w' ⟨rfl, ⟨nd, rfl⟩⟩; refine ⟨_, rfl, ?_⟩) | (at_builtin; refine print_append_str (w0 := w) w.heap.size rfl (.tmp 18) _ 52 9 5 rfl Try.underlying52 Try.underlying9 info5 u7 x7_1 t152 rfl rfl ?aO ?aB ?aS ?aL ?_; (case aB => exact (by repeat (first | (with_reducible first | exact HB.out | apply below_alloc | apply pw_below_drewN | apply below_drew1 | refine below_set ?_ GE151.out) | exact HB.out))); (case aO => exact (Kd.own_of_R (by (with_reducible repeat (first | apply Kd.R_alloc | apply Kd.R_drewN | apply Kd.R_drew)); exact Kd.R_mono (Kd.R_far (p := ⟨gb151, 2, none⟩) (Kd.R_far (p := ⟨gb151, 1, none⟩) (Kd.R_far (p := ⟨gb151, 0, none⟩) (Kd.R_types HO_7.out BK151.out (by decide)) (fun _ hk => hk.2) (.string ((rd_T50 l0 x12_1).f0))) (fun _ hk => hk.2) (.bool true)) (fun _ hk => hk.2) (.bool ((rd_T50 l0 x12_1).f2))) (fun _ hk => trivial)))); (case aS => exact (below_size (by repeat (first | (with_reducible first | exact HB.out | apply below_alloc | apply pw_below_drewN | apply below_drew1 | refine below_set ?_ GE151.out) | exact HB.out)))); (case aL => have := LMc10.out; omega); intro v154 w13 ho0 hb hg; have ho := Kd.R_of_own (h1 := fun _ => rfl) (ok := fun _ => True) ho0 (fun _ _ => trivial); clear ho0; have hat := True.intro; rw [← Ny153.out] at ho; change Kd.R (Kd.int .u8) 5 w13 w.heap.size (fun _ => True) v154 y153 at ho; have n0_ := Aside0.mk (blk_grown (g := gb151) (o := .cells #[.string ((rd_T50 l0 x12_1).f0), .bool true, .bool ((rd_T50 l0 x12_1).f2)] 50 (0, 0)) (by (with_reducible repeat (first | refine blk_drewN ?_ _ | refine blk_drew ?_ | refine blk_alloc ?_ _)); refine blk_put (cs := #[.string ((rd_T50 l0 x12_1).f0), .bool true, .bool false]) ?_ 2 _ rfl; (with_reducible repeat (first | refine blk_drewN ?_ _ | refine blk_drew ?_ | refine blk_alloc ?_ _)); refine blk_put (cs := #[.string ((rd_T50 l0 x12_1).f0), .bool false, .bool false]) ?_ 1 _ rfl; (with_reducible repeat (first | refine blk_drewN ?_ _ | refine blk_drew ?_ | refine blk_alloc ?_ _)); refine blk_put (cs := #[.string (⟨#[]⟩ : ByteArray), .bool false, .bool false]) ?_ 0 _ rfl; (with_reducible repeat (first | refine blk_drewN ?_ _ | refine blk_drew ?_ | refine blk_alloc ?_ _)); exact BK151.out) hg (Kd.R_ne HO_7.out BK151.out (by decide))); have n1_ := Aside0.mk (hb); have n2_ := Aside0.mk (ho); clear BK151; clear HB; clear HO_7; have BK151 := n0_; have HB := n1_; have HO155 := n2_; clear n0_ n1_ n2_; clear ho hb hg hat))
                go_roundg k1
                case measure => have := HK1.out; omega
                case rel => exact ⟨(y153), (wrap64 (x12_1 + 1)), (by first | rfl | (simp; done) | (simp [*]; done)), H', ⟨by have := HK1.out; omega⟩, ⟨by (with_reducible repeat (first | apply Kd.R_alloc | apply Kd.R_drewN | apply Kd.R_drew)); exact HO155.out⟩, ⟨by repeat (first | (with_reducible first | exact HB.out | apply below_alloc | apply pw_below_drewN | apply below_drew1 | refine below_set ?_ GE151.out) | exact HB.out)⟩⟩
              · rw [if_neg c10] at H
                exact absurd H (by simp)
            · replace c8 := Bool.eq_false_iff.mpr c8
              subst c8
              have H1 : (if x7_1.length + ((rd_T50 l0 x12_1).f0).size < 140737488355328 then (spec_ScExpanded.l0 k1 l1 l2 (x7_1 ++ bytesOf ((rd_T50 l0 x12_1).f0)) l0 (l0.length : Int) (wrap64 (x12_1 + 1))) else (none)) = some r := by rw [if_neg (show ¬ (false = true) by decide)] at H; exact H
              clear H
              have H := H1
              clear H1
              by_cases c14 : x7_1.length + ((rd_T50 l0 x12_1).f0).size < 140737488355328
              · rw [if_pos c14] at H
                have LMc14 := Aside0.mk c14
                clear c14
                obtain ⟨y156, hy156⟩ : ∃ y_ : List Int, y_ = (x7_1 ++ bytesOf ((rd_T50 l0 x12_1).f0)) := ⟨_, rfl⟩
                replace H : (spec_ScExpanded.l0 k1 l1 l2 y156 l0 (l0.length : Int) (wrap64 (x12_1 + 1))) = some r := by first | (rw [hy156]; with_reducible exact H) | (have H2_ := (Option.bind_some _ _).symm.trans H; rw [hy156]; with_reducible exact H2_) | (have H2_ := (Option.bind_some _ _).symm.trans H; with_reducible exact H2_) | with_reducible exact H | (rw [hy156]; exact H) | exact H
                have Ny156 := Aside0.mk hy156
                clear hy156
                have H' := Aside0.mk H
                clear H
                have p150 : 0 ≤ (x12_1 : Int) := of_decide_eq_true (by first | (with_reducible assumption) | assumption)
                have q150 : x12_1 < (l0.length : Int) := of_decide_eq_true (by first | (with_reducible assumption) | assumption)
                obtain ⟨ad150, e150, hx150_0, hx150_1, hx150_2⟩ := at_T50 HR0.out x12_1 p150 q150
                (try rw [← Nbq7.out] at hx150_1)
                (try rw [← Nbq7.out] at hx150_2)
                cases e150
                replace hx150_0 := (HB.out.cell (World.block_lt_of_cell? w _ hx150_0)).trans hx150_0
                replace hx150_1 := (HB.out.cell (World.block_lt_of_cell? w _ hx150_1)).trans hx150_1
                replace hx150_2 := (HB.out.cell (World.block_lt_of_cell? w _ hx150_2)).trans hx150_2
                replace p150 := eq_true p150
                replace q150 := eq_true q150
                go_wp2_with (first | ((with_reducible refine gate_dst (N := 9) rfl ?_); refine box_event ?hg (N := 9) ?hd (cs := #[.string (⟨#[]⟩ : ByteArray), .bool false, .bool false]) (t := 50) ?hr ?_; (case hd => rfl); (case hg => rfl); (case hr => first | (go_simp; done) | (go_simp; rfl)); intro gb151 hg w15 hbox hb; have n0_ := Aside0.mk (Kd.R_below (by (with_reducible repeat (first | apply Kd.R_alloc | apply Kd.R_drewN | apply Kd.R_drew)); exact HO_7.out) hb); have n1_ := Aside0.mk (below_step (by repeat (first | (with_reducible first | exact HB.out | apply below_alloc | apply pw_below_drewN | apply below_drew1) | exact HB.out)) hb); have n2_ := Aside0.mk (hbox); have n3_ := Aside0.mk ((by rw [hg]; exact (below_size (by repeat (first | (with_reducible first | exact HB.out | apply below_alloc | apply pw_below_drewN | apply below_drew1) | exact HB.out))) : w.heap.size ≤ gb151)); have n4_ := Aside0.mk ((by rw [hg]; exact (below_size (by repeat (first | (with_reducible first | exact HB.out | apply below_alloc | apply pw_below_drewN | apply below_drew1) | exact HB.out))) : w.heap.size ≤ gb151)); clear HO_7; clear HB; have HO_7 := n0_; have HB := n1_; have BK151 := n2_; have GW151 := n3_; have GE151 := n4_; clear n0_ n1_ n2_ n3_ n4_; clear hb hbox hg; have hcz16_0 : w15.cell? ⟨gb151, 0, none⟩ = some (.string (⟨#[]⟩ : ByteArray)) := (blk_cell BK151.out 0).trans rfl; have hcz16_1 : w15.cell? ⟨gb151, 1, none⟩ = some (.bool false) := (blk_cell BK151.out 1).trans rfl; have hcz16_2 : w15.cell? ⟨gb151, 2, none⟩ = some (.bool false) := (blk_cell BK151.out 2).trans rfl; have hfz16_0 := blk_frozen BK151.out 0; have hfz16_1 := blk_frozen BK151.out 1; have hfz16_2 := blk_frozen BK151.out 2) | (at_builtin; refine print_append_str (w0 := w) w.heap.size rfl (.tmp 25) _ 52 9 5 rfl Try.underlying52 Try.underlying9 info5 u7 x7_1 ((rd_T50 l0 x12_1).f0) rfl rfl ?aO ?aB ?aS ?aL ?_; (case aB => exact (by repeat (first | (with_reducible first | exact HB.out | apply below_alloc | apply pw_below_drewN | apply below_drew1 | refine below_set ?_ GE151.out) | exact HB.out))); (case aO => exact (Kd.own_of_R (by (with_reducible repeat (first | apply Kd.R_alloc | apply Kd.R_drewN | apply Kd.R_drew)); exact Kd.R_mono (Kd.R_far (p := ⟨gb151, 2, none⟩) (Kd.R_far (p := ⟨gb151, 1, none⟩) (Kd.R_far (p := ⟨gb151, 0, none⟩) (Kd.R_types HO_7.out BK151.out (by decide)) (fun _ hk => hk.2) (.string ((rd_T50 l0 x12_1).f0))) (fun _ hk => hk.2) (.bool false)) (fun _ hk => hk.2) (.bool ((rd_T50 l0 x12_1).f2))) (fun _ hk => trivial)))); (case aS => exact (below_size (by repeat (first | (with_reducible first | exact HB.out | apply below_alloc | apply pw_below_drewN | apply below_drew1 | refine below_set ?_ GE151.out) | exact HB.out)))); (case aL => have := LMc14.out; omega); intro v157 w17 ho0 hb hg; have ho := Kd.R_of_own (h1 := fun _ => rfl) (ok := fun _ => True) ho0 (fun _ _ => trivial); clear ho0; have hat := True.intro; rw [← Ny156.out] at ho; change Kd.R (Kd.int .u8) 5 w17 w.heap.size (fun _ => True) v157 y156 at ho; have n0_ := Aside0.mk (blk_grown (g := gb151) (o := .cells #[.string ((rd_T50 l0 x12_1).f0), .bool false, .bool ((rd_T50 l0 x12_1).f2)] 50 (0, 0)) (by (with_reducible repeat (first | refine blk_drewN ?_ _ | refine blk_drew ?_ | refine blk_alloc ?_ _)); refine blk_put (cs := #[.string ((rd_T50 l0 x12_1).f0), .bool false, .bool false]) ?_ 2 _ rfl; (with_reducible repeat (first | refine blk_drewN ?_ _ | refine blk_drew ?_ | refine blk_alloc ?_ _)); refine blk_put (cs := #[.string ((rd_T50 l0 x12_1).f0), .bool false, .bool false]) ?_ 1 _ rfl; (with_reducible repeat (first | refine blk_drewN ?_ _ | refine blk_drew ?_ | refine blk_alloc ?_ _)); refine blk_put (cs := #[.string (⟨#[]⟩ : ByteArray), .bool false, .bool false]) ?_ 0 _ rfl; (with_reducible repeat (first | refine blk_drewN ?_ _ | refine blk_drew ?_ | refine blk_alloc ?_ _)); exact BK151.out) hg (Kd.R_ne HO_7.out BK151.out (by decide))); have n1_ := Aside0.mk (hb); have n2_ := Aside0.mk (ho); clear BK151; clear HB; clear HO_7; have BK151 := n0_; have HB := n1_; have HO158 := n2_; clear n0_ n1_ n2_; clear ho hb hg hat))
                go_roundg k1
                case measure => have := HK1.out; omega
                case rel => exact ⟨(y156), (wrap64 (x12_1 + 1)), (by first | rfl | (simp; done) | (simp [*]; done)), H', ⟨by have := HK1.out; omega⟩, ⟨by (with_reducible repeat (first | apply Kd.R_alloc | apply Kd.R_drewN | apply Kd.R_drew)); exact HO158.out⟩, ⟨by repeat (first | (with_reducible first | exact HB.out | apply below_alloc | apply pw_below_drewN | apply below_drew1 | refine below_set ?_ GE151.out) | exact HB.out)⟩⟩
              · rw [if_neg c14] at H
                exact absurd H (by simp)
          · rw [if_neg c6] at H
            exact absurd H (by simp)
        · rw [if_neg c5] at H
          exact absurd H (by simp)
      · rw [if_neg c4] at H
        have c4b0 : decide (x12_1 < (l0.length : Int)) = false := decide_eq_false c4
        clear c4
        obtain rfl := Option.some.inj H
        have hcv18 := own_string (P := Try.prog) Try.underlying52 Try.underlying5 Try.underlying9 (Kd.own_of_R HO_7.out)
        go_wp2
        go_ret
        exact ⟨by first | rfl | (simp [errW_none, errW_some] <;> rfl) | (simp [*, errW_none, errW_some] <;> rfl), by repeat (first | (with_reducible first | exact HB.out | apply below_alloc | apply pw_below_drewN | apply below_drew1) | exact HB.out)⟩


end Go.Proofs.Ytopmkiadoacipaa.PFnExpandMade

-- PRINTED BY print.sh 35421559b90ae4d0a3588c463048766b98c2df88dd9212a6774a882060cdf62d: not written by this session
import Derived.Test.YtcblhkcdolaigaaPFnShellNameBracesx0
import Derived.Test.YtcblhkcdolaigaaPFnShellNameBracesx1
namespace Go.Proofs.Ytcblhkcdolaigaa.PFnShellNameBraces
open Go.RowKit Go.Proofs.YtcblhkcdolaigaaW.PrintWords Go.Proofs.YtcblhkcdolaigaaW.PrintLast Go.Proofs.YtcblhkcdolaigaaW.PrintMore
attribute [local go_sem] max2_int min2_int max_two min_two max_three min_three max_four min_four   -- for this text's walks alone
set_option linter.unusedVariables false
set_option linter.unusedSimpArgs false

/-! ### osexpand_getShellName: function 40 -/
mutual
def osexpand_getShellName.j0 : Nat → ByteArray → Bool → Option (ByteArray × Int)
  | 0, _, _ => none
  | k + 1, x0, x22 => if x22 = true then (if 1 ≤ 2 then (if 2 ≤ (x0.size : Int) then (some (x0.extract 1 2, 3)) else (none)) else (none)) else (osexpand_getShellName.l0 k x0 1)
def osexpand_getShellName.l0 : Nat → ByteArray → Int → Option (ByteArray × Int)
  | 0, _, _ => none
  | k + 1, x0, x4 => if x4 < (x0.size : Int) then (if 0 ≤ x4 then (if (bt x0 x4) = 125 then (if x4 = 1 then (some ((⟨#[]⟩ : ByteArray), 2)) else (if 1 ≤ x4 then (if x4 ≤ (x0.size : Int) then (some (x0.extract 1 (x4 : Int).toNat, wrap64 (x4 + 1))) else (none)) else (none))) else (osexpand_getShellName.l0 k x0 (wrap64 (x4 + 1)))) else (none)) else (some ((⟨#[]⟩ : ByteArray), 1))
def osexpand_getShellName.l1 : Nat → ByteArray → Int → Option (ByteArray × Int)
  | 0, _, _ => none
  | k + 1, x0, x5 => if x5 < (x0.size : Int) then (if 0 ≤ x5 then ((osexpand_isAlphaNum.f (bt x0 x5)).bind fun t103 => (if t103 = true then (osexpand_getShellName.l1 k x0 (wrap64 (x5 + 1))) else (if x5 ≤ (x0.size : Int) then (some (x0.extract 0 (x5 : Int).toNat, x5)) else (none)))) else (none)) else (if 0 ≤ x5 then (if x5 ≤ (x0.size : Int) then (some (x0.extract 0 (x5 : Int).toNat, x5)) else (none)) else (none))
end
def osexpand_getShellName.f (k : Nat) (a0 : ByteArray) : Option (ByteArray × Int) := if 0 < (a0.size : Int) then (if (bt a0 0) = 123 then (if (a0.size : Int) > 2 then (if 1 < (a0.size : Int) then ((osexpand_isShellSpecialVar.f (bt a0 1)).bind fun t101 => (if t101 = true then (if 2 < (a0.size : Int) then (osexpand_getShellName.j0 k a0 ((bt a0 2) == 125)) else (none)) else (osexpand_getShellName.j0 k a0 false))) else (none)) else (osexpand_getShellName.j0 k a0 false)) else ((osexpand_isShellSpecialVar.f (bt a0 0)).bind fun t102 => (if t102 = true then (if 0 ≤ 1 then (if 1 ≤ (a0.size : Int) then (some (a0.extract 0 1, 1)) else (none)) else (none)) else (osexpand_getShellName.l1 k a0 0)))) else (none)
theorem osexpand_getShellName.mono_l : ∀ k, (∀ y0 y1, LeO (osexpand_getShellName.j0 k y0 y1) (osexpand_getShellName.j0 (k + 1) y0 y1)) ∧ (∀ y0 y1, LeO (osexpand_getShellName.l0 k y0 y1) (osexpand_getShellName.l0 (k + 1) y0 y1)) ∧ (∀ y0 y1, LeO (osexpand_getShellName.l1 k y0 y1) (osexpand_getShellName.l1 (k + 1) y0 y1))
  | 0 => ⟨fun _ _ r h => by simp [osexpand_getShellName.j0] at h, fun _ _ r h => by simp [osexpand_getShellName.l0] at h, fun _ _ r h => by simp [osexpand_getShellName.l1] at h⟩
  | k + 1 => by
    obtain ⟨ih0, ih1, ih2⟩ := osexpand_getShellName.mono_l k
    refine ⟨?_, ?_, ?_⟩
    · intro y0 y1
      unfold osexpand_getShellName.j0
      repeat' first
      | (with_reducible exact ih0 _ _)
      | (with_reducible exact ih1 _ _)
      | (with_reducible exact ih2 _ _)
      | (with_reducible exact LeO.refl _)
      | (with_reducible exact LeO.none _)
      | (with_reducible refine LeO.ite ?_ ?_)
      | (with_reducible refine LeO.bind ?_ (fun _ => ?_))
      | exact ih0 _ _
      | exact ih1 _ _
      | exact ih2 _ _
      | exact LeO.none _
      | refine LeO.ite ?_ ?_
      | refine LeO.bind ?_ (fun _ => ?_)
    · intro y0 y1
      unfold osexpand_getShellName.l0
      repeat' first
      | (with_reducible exact ih0 _ _)
      | (with_reducible exact ih1 _ _)
      | (with_reducible exact ih2 _ _)
      | (with_reducible exact LeO.refl _)
      | (with_reducible exact LeO.none _)
      | (with_reducible refine LeO.ite ?_ ?_)
      | (with_reducible refine LeO.bind ?_ (fun _ => ?_))
      | exact ih0 _ _
      | exact ih1 _ _
      | exact ih2 _ _
      | exact LeO.none _
      | refine LeO.ite ?_ ?_
      | refine LeO.bind ?_ (fun _ => ?_)
    · intro y0 y1
      unfold osexpand_getShellName.l1
      repeat' first
      | (with_reducible exact ih0 _ _)
      | (with_reducible exact ih1 _ _)
      | (with_reducible exact ih2 _ _)
      | (with_reducible exact LeO.refl _)
      | (with_reducible exact LeO.none _)
      | (with_reducible refine LeO.ite ?_ ?_)
      | (with_reducible refine LeO.bind ?_ (fun _ => ?_))
      | exact ih0 _ _
      | exact ih1 _ _
      | exact ih2 _ _
      | exact LeO.none _
      | refine LeO.ite ?_ ?_
      | refine LeO.bind ?_ (fun _ => ?_)
theorem osexpand_getShellName.mono : ∀ a0 k, LeO (osexpand_getShellName.f k a0) (osexpand_getShellName.f (k + 1) a0) := by
  intro a0 k
  obtain ⟨ih0, ih1, ih2⟩ := osexpand_getShellName.mono_l k
  unfold osexpand_getShellName.f
  repeat' first
      | (with_reducible exact ih0 _ _)
      | (with_reducible exact ih1 _ _)
      | (with_reducible exact ih2 _ _)
      | (with_reducible exact LeO.refl _)
      | (with_reducible exact LeO.none _)
      | (with_reducible refine LeO.ite ?_ ?_)
      | (with_reducible refine LeO.bind ?_ (fun _ => ?_))
      | exact ih0 _ _
      | exact ih1 _ _
      | exact ih2 _ _
      | exact LeO.none _
      | refine LeO.ite ?_ ?_
      | refine LeO.bind ?_ (fun _ => ?_)
set_option maxHeartbeats 8000000 in
set_option maxRecDepth 100000 in
theorem osexpand_getShellName.calls (k : Nat) (a0 : ByteArray) (r1 : ByteArray) (r2 : Int) (w : World) (h : osexpand_getShellName.f k a0 = some (r1, r2)) :
    Calls Try.prog 40 #[.string a0] w fun e w' => e = .returned (.tuple #[.string r1, .int .i64 r2]) ∧ Drawn0 w w' := by
  have H : (if 0 < (a0.size : Int) then (if (bt a0 0) = 123 then (if (a0.size : Int) > 2 then (if 1 < (a0.size : Int) then ((osexpand_isShellSpecialVar.f (bt a0 1)).bind fun t101 => (if t101 = true then (if 2 < (a0.size : Int) then (osexpand_getShellName.j0 k a0 ((bt a0 2) == 125)) else (none)) else (osexpand_getShellName.j0 k a0 false))) else (none)) else (osexpand_getShellName.j0 k a0 false)) else ((osexpand_isShellSpecialVar.f (bt a0 0)).bind fun t102 => (if t102 = true then (if 0 ≤ 1 then (if 1 ≤ (a0.size : Int) then (some (a0.extract 0 1, 1)) else (none)) else (none)) else (osexpand_getShellName.l1 k a0 0)))) else (none)) = some (r1, r2) := h
  clear h
  by_cases c2 : 0 < (a0.size : Int)
  · rw [if_pos c2] at H
    have c2b0 : decide (0 < (a0.size : Int)) = true := decide_eq_true c2
    have c2b1 : decide (0 < a0.size) = true := decide_eq_true (by omega)
    clear c2
    by_cases c4 : (bt a0 0) = 123
    · rw [if_pos c4] at H
      have c4b0 : ((bt a0 0) == 123) = true := beq_iff_eq.mpr c4
      have c4b1 : ((bt a0 0) != 123) = false := bne_eq_false_iff_eq.mpr c4
      clear c4
      have HC5 := Aside0.mk H
      clear H
      have p3 : 0 ≤ (0 : Int) := (by omega)
      have q3 : 0 < a0.size := (by have : (0 : Int) < (a0.size : Int) := of_decide_eq_true (by first | (with_reducible assumption) | assumption); omega)
      have hx3 : ∀ h : 0 < a0.size, ((a0[0]'h).toNat : Int) = bt a0 0 := bt_at a0 0
      clear p3
      have qi3 : (0 < (a0.size : Int)) = True := eq_true (of_decide_eq_true (by first | (with_reducible assumption) | assumption))
      replace q3 := eq_true q3
      go_enter Try.func40, Try.ntmps40
      go_upto_region 2 with (fail)
      go_cut [22] (fun v22 wc => ∃ (kq : Nat) (x22_4 : Bool), v22 = .bool x22_4 ∧ Aside0 (osexpand_getShellName.j0 kq a0 x22_4 = some (r1, r2)) ∧ Aside0 (kq ≤ k) ∧ Drawn0 w wc)
      case first =>
        have H := HC5.out
        clear HC5
        by_cases c6 : (a0.size : Int) > 2
        · rw [if_pos c6] at H
          have c6b0 : decide (2 < (a0.size : Int)) = true := decide_eq_true c6
          have c6b1 : decide (2 < a0.size) = true := decide_eq_true (by omega)
          clear c6
          (first | rw [c6b0] | (simp only [i64_w, i32_w]; rw [c6b0]) | skip)
          by_cases c7 : 1 < (a0.size : Int)
          · rw [if_pos c7] at H
            have c7b0 : decide (1 < (a0.size : Int)) = true := decide_eq_true c7
            have c7b1 : decide (1 < a0.size) = true := decide_eq_true (by omega)
            clear c7
            replace H := Option.bind_eq_some_iff.mp H
            obtain ⟨t101, A90, H⟩ := H
            replace H : (if t101 = true then (if 2 < (a0.size : Int) then (osexpand_getShellName.j0 k a0 ((bt a0 2) == 125)) else (none)) else (osexpand_getShellName.j0 k a0 false)) = some (r1, r2) := H
            have A9 := Aside0.mk A90
            clear A90
            by_cases c10 : t101 = true
            · subst c10
              have H1 : (if 2 < (a0.size : Int) then (osexpand_getShellName.j0 k a0 ((bt a0 2) == 125)) else (none)) = some (r1, r2) := by rw [if_pos rfl] at H; exact H
              clear H
              have H := H1
              clear H1
              by_cases c11 : 2 < (a0.size : Int)
              · rw [if_pos c11] at H
                have c11b0 : decide (2 < (a0.size : Int)) = true := decide_eq_true c11
                have c11b1 : decide (2 < a0.size) = true := decide_eq_true (by omega)
                clear c11
                have H' := Aside0.mk H
                clear H
                have p8 : 0 ≤ (1 : Int) := (by omega)
                have q8 : 1 < a0.size := (by have : (1 : Int) < (a0.size : Int) := of_decide_eq_true (by first | (with_reducible assumption) | assumption); omega)
                have hx8 : ∀ h : 1 < a0.size, ((a0[1]'h).toNat : Int) = bt a0 1 := bt_at a0 1
                clear p8
                have qi8 : (1 < (a0.size : Int)) = True := eq_true (of_decide_eq_true (by first | (with_reducible assumption) | assumption))
                replace q8 := eq_true q8
                go_wp2_with (first | (go_at_call 46; (with_reducible refine (osexpand_isShellSpecialVar.calls (bt a0 1) true _ A9.out).mono ?_); rintro e w' ⟨rfl, ⟨nd, rfl⟩⟩; have p12 : 0 ≤ (2 : Int) := (by omega); have q12 : 2 < a0.size := (by have : (2 : Int) < (a0.size : Int) := of_decide_eq_true (by first | (with_reducible assumption) | assumption); omega); have hx12 : ∀ h : 2 < a0.size, ((a0[2]'h).toNat : Int) = bt a0 2 := bt_at a0 2; clear p12; have qi12 : (2 < (a0.size : Int)) = True := eq_true (of_decide_eq_true (by first | (with_reducible assumption) | assumption)); replace q12 := eq_true q12))
                go_meet
                case rel => exact ⟨_, (((bt a0 2) == 125)), (by first | rfl | (simp; done) | (simp [*]; done)), H', ⟨by first | omega | exact Nat.le_refl _⟩, by repeat (first | exact Drawn0.refl _ | apply Drawn0.step)⟩
              · rw [if_neg c11] at H
                exact absurd H (by simp)
            · replace c10 := Bool.eq_false_iff.mpr c10
              subst c10
              have H1 : (osexpand_getShellName.j0 k a0 false) = some (r1, r2) := by rw [if_neg (show ¬ (false = true) by decide)] at H; exact H
              clear H
              have H := H1
              clear H1
              have H' := Aside0.mk H
              clear H
              have p8 : 0 ≤ (1 : Int) := (by omega)
              have q8 : 1 < a0.size := (by have : (1 : Int) < (a0.size : Int) := of_decide_eq_true (by first | (with_reducible assumption) | assumption); omega)
              have hx8 : ∀ h : 1 < a0.size, ((a0[1]'h).toNat : Int) = bt a0 1 := bt_at a0 1
              clear p8
              have qi8 : (1 < (a0.size : Int)) = True := eq_true (of_decide_eq_true (by first | (with_reducible assumption) | assumption))
              replace q8 := eq_true q8
              go_wp2_with (first | (go_at_call 46; (with_reducible refine (osexpand_isShellSpecialVar.calls (bt a0 1) false _ A9.out).mono ?_); rintro e w' ⟨rfl, ⟨nd, rfl⟩⟩))
              go_meet
              case rel => exact ⟨_, (false), (by first | rfl | (simp; done) | (simp [*]; done)), H', ⟨by first | omega | exact Nat.le_refl _⟩, by repeat (first | exact Drawn0.refl _ | apply Drawn0.step)⟩
          · rw [if_neg c7] at H
            exact absurd H (by simp)
        · rw [if_neg c6] at H
          have c6b0 : decide (2 < (a0.size : Int)) = false := decide_eq_false c6
          have c6b1 : decide (2 < a0.size) = false := decide_eq_false (by omega)
          clear c6
          (first | rw [c6b0] | (simp only [i64_w, i32_w]; rw [c6b0]) | skip)
          have H' := Aside0.mk H
          clear H
          go_wp2
          go_meet
          case rel => exact ⟨_, (false), (by first | rfl | (simp; done) | (simp [*]; done)), H', ⟨by first | omega | exact Nat.le_refl _⟩, by repeat (first | exact Drawn0.refl _ | apply Drawn0.step)⟩
      case rest =>
        clear HC5
        try clear c1
        try clear p1
        try clear q1
        try clear hx1
        try clear qi1
        try clear c2
        try clear c2b0
        try clear c2b1
        try clear p2
        try clear p3
        try clear q3
        try clear hx3
        try clear qi3
        try clear c4
        try clear c4b0
        try clear c4b1
        try clear c6
        try clear c6b0
        try clear c6b1
        try clear c7
        try clear c7b0
        try clear c7b1
        try clear p8
        try clear q8
        try clear hx8
        try clear qi8
        try clear c10
        try clear c11
        try clear c11b0
        try clear c11b1
        try clear p12
        try clear q12
        try clear hx12
        try clear qi12
        try clear p12
        try clear p3
        try clear p8
        try clear q12
        try clear q3
        try clear q8
        obtain ⟨kq, x22_4, rfl, HA, HJ4, ⟨mc4, rfl⟩⟩ := hcut
        cases kq with
        | zero => exact absurd HA.out (by simp [osexpand_getShellName.j0])
        | succ kj4 =>
          have H := HA.out
          clear HA
          simp only [osexpand_getShellName.j0] at H
          by_cases c13 : x22_4 = true
          · subst c13
            have H1 : (if 1 ≤ 2 then (if 2 ≤ (a0.size : Int) then (some (a0.extract 1 2, 3)) else (none)) else (none)) = some (r1, r2) := by rw [if_pos rfl] at H; exact H
            clear H
            have H := H1
            clear H1
            by_cases c14 : 1 ≤ 2
            · rw [if_pos c14] at H
              have c14b0 := eq_true c14
              have c14b1 : decide (1 ≤ 2) = true := decide_eq_true c14
              clear c14
              by_cases c15 : 2 ≤ (a0.size : Int)
              · rw [if_pos c15] at H
                have c15b0 := eq_true c15
                have c15b1 : decide (2 ≤ (a0.size : Int)) = true := decide_eq_true c15
                clear c15
                simp only [Option.some.injEq, Prod.mk.injEq] at H
                obtain ⟨rfl, rfl⟩ := H
                go_wp2
                go_ret2
                exact ⟨by first | rfl | (simp; done) | (simp [*]; done), by repeat (first | exact Drawn0.refl _ | apply Drawn0.step)⟩
              · rw [if_neg c15] at H
                exact absurd H (by simp)
            · rw [if_neg c14] at H
              exact absurd H (by simp)
          · replace c13 := Bool.eq_false_iff.mpr c13
            subst c13
            have H1 : (osexpand_getShellName.l0 kj4 a0 1) = some (r1, r2) := by rw [if_neg (show ¬ (false = true) by decide)] at H; exact H
            clear H
            have H := H1
            clear H1
            have H' := Aside0.mk H
            clear H
            go_wp2
            go_loopg [4] kj4 (fun kq v4 w' => ∃ (x4_2 : Int), v4 = .int .i64 x4_2 ∧ Aside0 (osexpand_getShellName.l0 kq a0 x4_2 = some (r1, r2)) ∧ Aside0 (kq ≤ kj4) ∧ Drawn0 w w')
            case atStart => exact ⟨(1), (by first | rfl | (simp; done) | (simp [*]; done)), H', ⟨Nat.le_refl _⟩, by repeat (first | exact Drawn0.refl _ | apply Drawn0.step)⟩
            case round =>
              clear H'
              try clear c1
              try clear p1
              try clear q1
              try clear hx1
              try clear qi1
              try clear c2
              try clear c2b0
              try clear c2b1
              try clear p2
              try clear p3
              try clear q3
              try clear hx3
              try clear qi3
              try clear c4
              try clear c4b0
              try clear c4b1
              try clear c6
              try clear c6b0
              try clear c6b1
              try clear c7
              try clear c7b0
              try clear c7b1
              try clear p8
              try clear q8
              try clear hx8
              try clear qi8
              try clear c10
              try clear c11
              try clear c11b0
              try clear c11b1
              try clear p12
              try clear q12
              try clear hx12
              try clear qi12
              try clear c13
              try clear c14
              try clear c14b0
              try clear c14b1
              try clear c15
              try clear c15b0
              try clear c15b1
              try clear p1
              try clear p12
              try clear p2
              try clear p3
              try clear p8
              try clear q1
              try clear q12
              try clear q3
              try clear q8
              obtain ⟨x4_2, rfl, HA, HK2, ⟨m2, rfl⟩⟩ := hrel
              cases gk with
              | zero => exact absurd HA.out (by simp [osexpand_getShellName.l0])
              | succ k2 =>
                have H := HA.out
                clear HA
                simp only [osexpand_getShellName.l0] at H
                by_cases c16 : x4_2 < (a0.size : Int)
                · rw [if_pos c16] at H
                  have c16b0 : decide (x4_2 < (a0.size : Int)) = true := decide_eq_true c16
                  clear c16
                  by_cases c17 : 0 ≤ x4_2
                  · rw [if_pos c17] at H
                    have c17b0 : decide (0 ≤ x4_2) = true := decide_eq_true c17
                    clear c17
                    by_cases c19 : (bt a0 x4_2) = 125
                    · rw [if_pos c19] at H
                      have c19b0 : ((bt a0 x4_2) == 125) = true := beq_iff_eq.mpr c19
                      have c19b1 : ((bt a0 x4_2) != 125) = false := bne_eq_false_iff_eq.mpr c19
                      clear c19
                      by_cases c20 : x4_2 = 1
                      · rw [if_pos c20] at H
                        have c20b0 : (x4_2 == 1) = true := beq_iff_eq.mpr c20
                        have c20b1 : (x4_2 != 1) = false := bne_eq_false_iff_eq.mpr c20
                        clear c20
                        simp only [Option.some.injEq, Prod.mk.injEq] at H
                        obtain ⟨rfl, rfl⟩ := H
                        have p18 : 0 ≤ (x4_2 : Int) := of_decide_eq_true (by first | (with_reducible assumption) | assumption)
                        have q18 : x4_2 < (a0.size : Int) := of_decide_eq_true (by first | (with_reducible assumption) | assumption)
                        have hx18 := bt_at a0 x4_2
                        replace p18 := eq_true p18
                        replace q18 := eq_true q18
                        go_wp2
                        go_ret2
                        exact ⟨by first | rfl | (simp; done) | (simp [*]; done), by repeat (first | exact Drawn0.refl _ | apply Drawn0.step)⟩
                      · rw [if_neg c20] at H
                        have c20b0 : (x4_2 == 1) = false := beq_eq_false_iff_ne.mpr c20
                        have c20b1 : (x4_2 != 1) = true := bne_iff_ne.mpr c20
                        by_cases c21 : 1 ≤ x4_2
                        · rw [if_pos c21] at H
                          have c21b0 := eq_true c21
                          have c21b1 : decide (1 ≤ x4_2) = true := decide_eq_true c21
                          clear c21
                          by_cases c22 : x4_2 ≤ (a0.size : Int)
                          · rw [if_pos c22] at H
                            have c22b0 := eq_true c22
                            have c22b1 : decide (x4_2 ≤ (a0.size : Int)) = true := decide_eq_true c22
                            clear c22
                            simp only [Option.some.injEq, Prod.mk.injEq] at H
                            obtain ⟨rfl, rfl⟩ := H
                            have p18 : 0 ≤ (x4_2 : Int) := of_decide_eq_true (by first | (with_reducible assumption) | assumption)
                            have q18 : x4_2 < (a0.size : Int) := of_decide_eq_true (by first | (with_reducible assumption) | assumption)
                            have hx18 := bt_at a0 x4_2
                            replace p18 := eq_true p18
                            replace q18 := eq_true q18
                            go_wp2
                            go_ret2
                            exact ⟨by first | rfl | (simp; done) | (simp [*]; done), by repeat (first | exact Drawn0.refl _ | apply Drawn0.step)⟩
                          · rw [if_neg c22] at H
                            exact absurd H (by simp)
                        · rw [if_neg c21] at H
                          exact absurd H (by simp)
                    · rw [if_neg c19] at H
                      have c19b0 : ((bt a0 x4_2) == 125) = false := beq_eq_false_iff_ne.mpr c19
                      have c19b1 : ((bt a0 x4_2) != 125) = true := bne_iff_ne.mpr c19
                      have H' := Aside0.mk H
                      clear H
                      have p18 : 0 ≤ (x4_2 : Int) := of_decide_eq_true (by first | (with_reducible assumption) | assumption)
                      have q18 : x4_2 < (a0.size : Int) := of_decide_eq_true (by first | (with_reducible assumption) | assumption)
                      have hx18 := bt_at a0 x4_2
                      replace p18 := eq_true p18
                      replace q18 := eq_true q18
                      go_wp2
                      go_roundg k2
                      case measure => have := HJ4.out; have := HK2.out; omega
                      case rel => exact ⟨(wrap64 (x4_2 + 1)), (by first | rfl | (simp; done) | (simp [*]; done)), H', ⟨by have := HJ4.out; have := HK2.out; omega⟩, by repeat (first | exact Drawn0.refl _ | apply Drawn0.step)⟩
                  · rw [if_neg c17] at H
                    exact absurd H (by simp)
                · rw [if_neg c16] at H
                  have c16b0 : decide (x4_2 < (a0.size : Int)) = false := decide_eq_false c16
                  clear c16
                  simp only [Option.some.injEq, Prod.mk.injEq] at H
                  obtain ⟨rfl, rfl⟩ := H
                  go_wp2
                  go_ret2
                  exact ⟨by first | rfl | (simp; done) | (simp [*]; done), by repeat (first | exact Drawn0.refl _ | apply Drawn0.step)⟩
    · rw [if_neg c4] at H
      have c4b0 : ((bt a0 0) == 123) = false := beq_eq_false_iff_ne.mpr c4
      have c4b1 : ((bt a0 0) != 123) = true := bne_iff_ne.mpr c4
      replace H := Option.bind_eq_some_iff.mp H
      obtain ⟨t102, A240, H⟩ := H
      replace H : (if t102 = true then (if 0 ≤ 1 then (if 1 ≤ (a0.size : Int) then (some (a0.extract 0 1, 1)) else (none)) else (none)) else (osexpand_getShellName.l1 k a0 0)) = some (r1, r2) := H
      have A24 := Aside0.mk A240
      clear A240
      by_cases c25 : t102 = true
      · subst c25
        have H1 : (if 0 ≤ 1 then (if 1 ≤ (a0.size : Int) then (some (a0.extract 0 1, 1)) else (none)) else (none)) = some (r1, r2) := by rw [if_pos rfl] at H; exact H
        clear H
        have H := H1
        clear H1
        by_cases c26 : 0 ≤ 1
        · rw [if_pos c26] at H
          have c26b0 := eq_true c26
          have c26b1 : decide (0 ≤ 1) = true := decide_eq_true c26
          clear c26
          by_cases c27 : 1 ≤ (a0.size : Int)
          · rw [if_pos c27] at H
            have c27b0 := eq_true c27
            have c27b1 : decide (1 ≤ (a0.size : Int)) = true := decide_eq_true c27
            clear c27
            simp only [Option.some.injEq, Prod.mk.injEq] at H
            obtain ⟨rfl, rfl⟩ := H
            have p3 : 0 ≤ (0 : Int) := (by omega)
            have q3 : 0 < a0.size := (by have : (0 : Int) < (a0.size : Int) := of_decide_eq_true (by first | (with_reducible assumption) | assumption); omega)
            have hx3 : ∀ h : 0 < a0.size, ((a0[0]'h).toNat : Int) = bt a0 0 := bt_at a0 0
            clear p3
            have qi3 : (0 < (a0.size : Int)) = True := eq_true (of_decide_eq_true (by first | (with_reducible assumption) | assumption))
            replace q3 := eq_true q3
            have p23 : 0 ≤ (0 : Int) := (by omega)
            have q23 : 0 < a0.size := (by have : (0 : Int) < (a0.size : Int) := of_decide_eq_true (by first | (with_reducible assumption) | assumption); omega)
            have hx23 : ∀ h : 0 < a0.size, ((a0[0]'h).toNat : Int) = bt a0 0 := bt_at a0 0
            clear p23
            have qi23 : (0 < (a0.size : Int)) = True := eq_true (of_decide_eq_true (by first | (with_reducible assumption) | assumption))
            replace q23 := eq_true q23
            go_enter Try.func40, Try.ntmps40
            go_wp2_with (first | ((with_reducible refine gate_callee (f := 46) rfl ?_); refine goesL_ (some 45) rfl rfl Try.func46 (by kernel_rfl) rfl #[.int .u8 (bt a0 0)] rfl (by (try simp only [List.map_toArray, List.map_cons, List.map_nil]); first | done | rfl | (simp only [List.length_drop, List.length_take]; rfl)) ?_; (with_reducible refine (osexpand_isShellSpecialVar.calls (bt a0 0) true _ A24.out).mono ?_); rintro e w' ⟨rfl, ⟨nd, rfl⟩⟩; refine ⟨_, rfl, ?_⟩))
            go_ret2
            exact ⟨by first | rfl | (simp; done) | (simp [*]; done), by repeat (first | exact Drawn0.refl _ | apply Drawn0.step)⟩
          · rw [if_neg c27] at H
            exact absurd H (by simp)
        · rw [if_neg c26] at H
          exact absurd H (by simp)
      · replace c25 := Bool.eq_false_iff.mpr c25
        subst c25
        have H1 : (osexpand_getShellName.l1 k a0 0) = some (r1, r2) := by rw [if_neg (show ¬ (false = true) by decide)] at H; exact H
        clear H
        have H := H1
        clear H1
        have H' := Aside0.mk H
        clear H
        have p3 : 0 ≤ (0 : Int) := (by omega)
        have q3 : 0 < a0.size := (by have : (0 : Int) < (a0.size : Int) := of_decide_eq_true (by first | (with_reducible assumption) | assumption); omega)
        have hx3 : ∀ h : 0 < a0.size, ((a0[0]'h).toNat : Int) = bt a0 0 := bt_at a0 0
        clear p3
        have qi3 : (0 < (a0.size : Int)) = True := eq_true (of_decide_eq_true (by first | (with_reducible assumption) | assumption))
        replace q3 := eq_true q3
        have p23 : 0 ≤ (0 : Int) := (by omega)
        have q23 : 0 < a0.size := (by have : (0 : Int) < (a0.size : Int) := of_decide_eq_true (by first | (with_reducible assumption) | assumption); omega)
        have hx23 : ∀ h : 0 < a0.size, ((a0[0]'h).toNat : Int) = bt a0 0 := bt_at a0 0
        clear p23
        have qi23 : (0 < (a0.size : Int)) = True := eq_true (of_decide_eq_true (by first | (with_reducible assumption) | assumption))
        replace q23 := eq_true q23
        go_enter Try.func40, Try.ntmps40
        go_wp2_with (first | ((with_reducible refine gate_callee (f := 46) rfl ?_); refine goesL_ (some 45) rfl rfl Try.func46 (by kernel_rfl) rfl #[.int .u8 (bt a0 0)] rfl (by (try simp only [List.map_toArray, List.map_cons, List.map_nil]); first | done | rfl | (simp only [List.length_drop, List.length_take]; rfl)) ?_; (with_reducible refine (osexpand_isShellSpecialVar.calls (bt a0 0) false _ A24.out).mono ?_); rintro e w' ⟨rfl, ⟨nd, rfl⟩⟩; refine ⟨_, rfl, ?_⟩))
        go_loopg [5] k (fun kq v5 w' => ∃ (x5_1 : Int), v5 = .int .i64 x5_1 ∧ Aside0 (osexpand_getShellName.l1 kq a0 x5_1 = some (r1, r2)) ∧ Aside0 (kq ≤ k) ∧ Drawn0 w w')
        case atStart => exact ⟨(0), (by first | rfl | (simp; done) | (simp [*]; done)), H', ⟨Nat.le_refl _⟩, by repeat (first | exact Drawn0.refl _ | apply Drawn0.step)⟩
        case round =>
          clear H'
          try clear c1
          try clear p1
          try clear q1
          try clear hx1
          try clear qi1
          try clear c2
          try clear c2b0
          try clear c2b1
          try clear p2
          try clear q2
          try clear hx2
          try clear qi2
          try clear p3
          try clear q3
          try clear hx3
          try clear qi3
          try clear c4
          try clear c4b0
          try clear c4b1
          try clear c6
          try clear c6b0
          try clear c6b1
          try clear p6
          try clear c7
          try clear c7b0
          try clear c7b1
          try clear p8
          try clear q8
          try clear hx8
          try clear qi8
          try clear c10
          try clear c11
          try clear c11b0
          try clear c11b1
          try clear p12
          try clear q12
          try clear hx12
          try clear qi12
          try clear c13
          try clear c14
          try clear c14b0
          try clear c14b1
          try clear c15
          try clear c15b0
          try clear c15b1
          try clear c16
          try clear c16b0
          try clear c17
          try clear c17b0
          try clear p18
          try clear q18
          try clear hx18
          try clear c19
          try clear c19b0
          try clear c19b1
          try clear c20
          try clear c20b0
          try clear c20b1
          try clear c21
          try clear c21b0
          try clear c21b1
          try clear c22
          try clear c22b0
          try clear c22b1
          try clear p23
          try clear q23
          try clear hx23
          try clear qi23
          try clear c25
          try clear c26
          try clear c26b0
          try clear c26b1
          try clear c27
          try clear c27b0
          try clear c27b1
          try clear p1
          try clear p12
          try clear p18
          try clear p2
          try clear p23
          try clear p3
          try clear p8
          try clear q1
          try clear q12
          try clear q18
          try clear q23
          try clear q3
          try clear q8
          obtain ⟨x5_1, rfl, HA, HK1, ⟨m1, rfl⟩⟩ := hrel
          cases gk with
          | zero => exact absurd HA.out (by simp [osexpand_getShellName.l1])
          | succ k1 =>
            have H := HA.out
            clear HA
            simp only [osexpand_getShellName.l1] at H
            by_cases c28 : x5_1 < (a0.size : Int)
            · rw [if_pos c28] at H
              have c28b0 : decide (x5_1 < (a0.size : Int)) = true := decide_eq_true c28
              clear c28
              by_cases c29 : 0 ≤ x5_1
              · rw [if_pos c29] at H
                have c29b0 : decide (0 ≤ x5_1) = true := decide_eq_true c29
                clear c29
                replace H := Option.bind_eq_some_iff.mp H
                obtain ⟨t103, A310, H⟩ := H
                replace H : (if t103 = true then (osexpand_getShellName.l1 k1 a0 (wrap64 (x5_1 + 1))) else (if x5_1 ≤ (a0.size : Int) then (some (a0.extract 0 (x5_1 : Int).toNat, x5_1)) else (none))) = some (r1, r2) := H
                have A31 := Aside0.mk A310
                clear A310
                by_cases c32 : t103 = true
                · subst c32
                  have H1 : (osexpand_getShellName.l1 k1 a0 (wrap64 (x5_1 + 1))) = some (r1, r2) := by rw [if_pos rfl] at H; exact H
                  clear H
                  have H := H1
                  clear H1
                  have H' := Aside0.mk H
                  clear H
                  have p30 : 0 ≤ (x5_1 : Int) := of_decide_eq_true (by first | (with_reducible assumption) | assumption)
                  have q30 : x5_1 < (a0.size : Int) := of_decide_eq_true (by first | (with_reducible assumption) | assumption)
                  have hx30 := bt_at a0 x5_1
                  replace p30 := eq_true p30
                  replace q30 := eq_true q30
                  go_wp2_with (first | (go_at_call 47; (with_reducible refine (osexpand_isAlphaNum.calls (bt a0 x5_1) true _ A31.out).mono ?_); rintro e w' ⟨rfl, ⟨nd, rfl⟩⟩))
                  go_roundg k1
                  case measure => have := HK1.out; omega
                  case rel => exact ⟨(wrap64 (x5_1 + 1)), (by first | rfl | (simp; done) | (simp [*]; done)), H', ⟨by have := HK1.out; omega⟩, by repeat (first | exact Drawn0.refl _ | apply Drawn0.step)⟩
                · replace c32 := Bool.eq_false_iff.mpr c32
                  subst c32
                  have H1 : (if x5_1 ≤ (a0.size : Int) then (some (a0.extract 0 (x5_1 : Int).toNat, x5_1)) else (none)) = some (r1, r2) := by rw [if_neg (show ¬ (false = true) by decide)] at H; exact H
                  clear H
                  have H := H1
                  clear H1
                  have c33b0 := eq_true (of_decide_eq_true (by first | (with_reducible assumption) | assumption) : 0 ≤ x5_1)
                  by_cases c34 : x5_1 ≤ (a0.size : Int)
                  · rw [if_pos c34] at H
                    have c34b0 := eq_true c34
                    have c34b1 : decide (x5_1 ≤ (a0.size : Int)) = true := decide_eq_true c34
                    clear c34
                    simp only [Option.some.injEq, Prod.mk.injEq] at H
                    obtain ⟨rfl, rfl⟩ := H
                    have p30 : 0 ≤ (x5_1 : Int) := of_decide_eq_true (by first | (with_reducible assumption) | assumption)
                    have q30 : x5_1 < (a0.size : Int) := of_decide_eq_true (by first | (with_reducible assumption) | assumption)
                    have hx30 := bt_at a0 x5_1
                    replace p30 := eq_true p30
                    replace q30 := eq_true q30
                    go_wp2_with (first | (go_at_call 47; (with_reducible refine (osexpand_isAlphaNum.calls (bt a0 x5_1) false _ A31.out).mono ?_); rintro e w' ⟨rfl, ⟨nd, rfl⟩⟩))
                    go_ret2
                    exact ⟨by first | rfl | (simp; done) | (simp [*]; done), by repeat (first | exact Drawn0.refl _ | apply Drawn0.step)⟩
                  · rw [if_neg c34] at H
                    exact absurd H (by simp)
              · rw [if_neg c29] at H
                exact absurd H (by simp)
            · rw [if_neg c28] at H
              have c28b0 : decide (x5_1 < (a0.size : Int)) = false := decide_eq_false c28
              clear c28
              by_cases c35 : 0 ≤ x5_1
              · rw [if_pos c35] at H
                have c35b0 := eq_true c35
                have c35b1 : decide (0 ≤ x5_1) = true := decide_eq_true c35
                clear c35
                by_cases c36 : x5_1 ≤ (a0.size : Int)
                · rw [if_pos c36] at H
                  have c36b0 := eq_true c36
                  have c36b1 : decide (x5_1 ≤ (a0.size : Int)) = true := decide_eq_true c36
                  clear c36
                  simp only [Option.some.injEq, Prod.mk.injEq] at H
                  obtain ⟨rfl, rfl⟩ := H
                  go_wp2
                  go_ret2
                  exact ⟨by first | rfl | (simp; done) | (simp [*]; done), by repeat (first | exact Drawn0.refl _ | apply Drawn0.step)⟩
                · rw [if_neg c36] at H
                  exact absurd H (by simp)
              · rw [if_neg c35] at H
                exact absurd H (by simp)
  · rw [if_neg c2] at H
    exact absurd H (by simp)

/-! ### osexpand_ZZShellName: function 33 -/
def osexpand_ZZShellName.f (k : Nat) (a0 : ByteArray) : Option (ByteArray × Int) := (osexpand_getShellName.f k a0).bind fun bt104 => (some (bt104.1, bt104.2))
theorem osexpand_ZZShellName.mono : ∀ a0 k, LeO (osexpand_ZZShellName.f k a0) (osexpand_ZZShellName.f (k + 1) a0) := by
  intro a0 k
  unfold osexpand_ZZShellName.f
  repeat' first
      | (with_reducible exact osexpand_getShellName.mono _ _)
      | (with_reducible exact LeO.refl _)
      | (with_reducible exact LeO.none _)
      | (with_reducible refine LeO.ite ?_ ?_)
      | (with_reducible refine LeO.bind ?_ (fun _ => ?_))
      | exact osexpand_getShellName.mono _ _
      | exact LeO.none _
      | refine LeO.ite ?_ ?_
      | refine LeO.bind ?_ (fun _ => ?_)
set_option maxHeartbeats 8000000 in
set_option maxRecDepth 100000 in
theorem osexpand_ZZShellName.calls (k : Nat) (a0 : ByteArray) (r1 : ByteArray) (r2 : Int) (w : World) (h : osexpand_ZZShellName.f k a0 = some (r1, r2)) :
    Calls Try.prog 33 #[.string a0] w fun e w' => e = .returned (.tuple #[.string r1, .int .i64 r2]) ∧ Drawn0 w w' := by
  have H : ((osexpand_getShellName.f k a0).bind fun bt104 => (some (bt104.1, bt104.2))) = some (r1, r2) := h
  clear h
  replace H := Option.bind_eq_some_iff.mp H
  obtain ⟨⟨t104, t105⟩, A20, H⟩ := H
  replace H : (some (t104, t105)) = some (r1, r2) := H
  have A2 := Aside0.mk A20
  clear A20
  simp only [Option.some.injEq, Prod.mk.injEq] at H
  obtain ⟨rfl, rfl⟩ := H
  go_enter Try.func33, Try.ntmps33
  go_wp2_with (first | ((with_reducible refine gate_callee (f := 40) rfl ?_); refine goesL_ (some 5) rfl rfl Try.func40 (by kernel_rfl) rfl #[.string a0] rfl (by (try simp only [List.map_toArray, List.map_cons, List.map_nil]); first | done | rfl | (simp only [List.length_drop, List.length_take]; rfl)) ?_; (with_reducible refine (osexpand_getShellName.calls k a0 t104 t105 _ A2.out).mono ?_); rintro e w' ⟨rfl, ⟨nd, rfl⟩⟩; refine ⟨_, rfl, ?_⟩))
  go_ret2
  exact ⟨by first | rfl | (simp; done) | (simp [*]; done), by repeat (first | exact Drawn0.refl _ | apply Drawn0.step)⟩

/-! ### impl_ShellName: function 20 -/
def impl_ShellName.f (k : Nat) (a0 : ByteArray) : Option (ByteArray × Int) := (osexpand_ZZShellName.f k a0).bind fun bt106 => (some (bt106.1, bt106.2))
theorem impl_ShellName.mono : ∀ a0 k, LeO (impl_ShellName.f k a0) (impl_ShellName.f (k + 1) a0) := by
  intro a0 k
  unfold impl_ShellName.f
  repeat' first
      | (with_reducible exact osexpand_ZZShellName.mono _ _)
      | (with_reducible exact LeO.refl _)
      | (with_reducible exact LeO.none _)
      | (with_reducible refine LeO.ite ?_ ?_)
      | (with_reducible refine LeO.bind ?_ (fun _ => ?_))
      | exact osexpand_ZZShellName.mono _ _
      | exact LeO.none _
      | refine LeO.ite ?_ ?_
      | refine LeO.bind ?_ (fun _ => ?_)
set_option maxHeartbeats 8000000 in
set_option maxRecDepth 100000 in
theorem impl_ShellName.calls (k : Nat) (a0 : ByteArray) (r1 : ByteArray) (r2 : Int) (w : World) (h : impl_ShellName.f k a0 = some (r1, r2)) :
    Calls Try.prog 20 #[.string a0] w fun e w' => e = .returned (.tuple #[.string r1, .int .i64 r2]) ∧ Drawn0 w w' := by
  have H : ((osexpand_ZZShellName.f k a0).bind fun bt106 => (some (bt106.1, bt106.2))) = some (r1, r2) := h
  clear h
  replace H := Option.bind_eq_some_iff.mp H
  obtain ⟨⟨t106, t107⟩, A20, H⟩ := H
  replace H : (some (t106, t107)) = some (r1, r2) := H
  have A2 := Aside0.mk A20
  clear A20
  simp only [Option.some.injEq, Prod.mk.injEq] at H
  obtain ⟨rfl, rfl⟩ := H
  go_enter Try.func20, Try.ntmps20
  go_wp2_with (first | ((with_reducible refine gate_callee (f := 33) rfl ?_); refine goesL_ (some 5) rfl rfl Try.func33 (by kernel_rfl) rfl #[.string a0] rfl (by (try simp only [List.map_toArray, List.map_cons, List.map_nil]); first | done | rfl | (simp only [List.length_drop, List.length_take]; rfl)) ?_; (with_reducible refine (osexpand_ZZShellName.calls k a0 t106 t107 _ A2.out).mono ?_); rintro e w' ⟨rfl, ⟨nd, rfl⟩⟩; refine ⟨_, rfl, ?_⟩))
  go_ret2
  exact ⟨by first | rfl | (simp; done) | (simp [*]; done), by repeat (first | exact Drawn0.refl _ | apply Drawn0.step)⟩

/-! ### spec_ScHas: function 21 -/
def spec_ScHas.l0 : Nat → ByteArray → Int → Int → Option (Bool)
  | 0, _, _, _ => none
  | k + 1, x0, x1, x5 => if x5 < (x0.size : Int) then (if 0 ≤ x5 then (if (bt x0 x5) = x1 then (some true) else (spec_ScHas.l0 k x0 x1 (wrap64 (x5 + 1)))) else (none)) else (some false)
def spec_ScHas.f (k : Nat) (a0 : ByteArray) (a1 : Int) : Option (Bool) := spec_ScHas.l0 k a0 a1 0
theorem spec_ScHas.mono_l : ∀ k, (∀ y0 y1 y2, LeO (spec_ScHas.l0 k y0 y1 y2) (spec_ScHas.l0 (k + 1) y0 y1 y2))
  | 0 => fun _ _ _ r h => by simp [spec_ScHas.l0] at h
  | k + 1 => by
    have ih0 := spec_ScHas.mono_l k
    · intro y0 y1 y2
      unfold spec_ScHas.l0
      repeat' first
      | (with_reducible exact ih0 _ _ _)
      | (with_reducible exact LeO.refl _)
      | (with_reducible exact LeO.none _)
      | (with_reducible refine LeO.ite ?_ ?_)
      | (with_reducible refine LeO.bind ?_ (fun _ => ?_))
      | exact ih0 _ _ _
      | exact LeO.none _
      | refine LeO.ite ?_ ?_
      | refine LeO.bind ?_ (fun _ => ?_)
theorem spec_ScHas.mono : ∀ a0 a1 k, LeO (spec_ScHas.f k a0 a1) (spec_ScHas.f (k + 1) a0 a1) := by
  intro a0 a1 k
  have ih0 := spec_ScHas.mono_l k
  unfold spec_ScHas.f
  repeat' first
      | (with_reducible exact ih0 _ _ _)
      | (with_reducible exact LeO.refl _)
      | (with_reducible exact LeO.none _)
      | (with_reducible refine LeO.ite ?_ ?_)
      | (with_reducible refine LeO.bind ?_ (fun _ => ?_))
      | exact ih0 _ _ _
      | exact LeO.none _
      | refine LeO.ite ?_ ?_
      | refine LeO.bind ?_ (fun _ => ?_)
set_option maxHeartbeats 8000000 in
set_option maxRecDepth 100000 in
theorem spec_ScHas.calls (k : Nat) (a0 : ByteArray) (a1 : Int) (r : Bool) (w : World) (h : spec_ScHas.f k a0 a1 = some r) :
    Calls Try.prog 21 #[.string a0, .int .u8 a1] w fun e w' => e = .returned (.bool r) ∧ Drawn0 w w' := by
  have H : (spec_ScHas.l0 k a0 a1 0) = some r := h
  clear h
  have H' := Aside0.mk H
  clear H
  go_enter Try.func21, Try.ntmps21
  go_wp2
  go_loopg [5] k (fun kq v5 w' => ∃ (x5_1 : Int), v5 = .int .i64 x5_1 ∧ Aside0 (spec_ScHas.l0 kq a0 a1 x5_1 = some r) ∧ Aside0 (kq ≤ k) ∧ Drawn0 w w')
  case atStart => exact ⟨(0), (by first | rfl | (simp; done) | (simp [*]; done)), H', ⟨Nat.le_refl _⟩, by repeat (first | exact Drawn0.refl _ | apply Drawn0.step)⟩
  case round =>
    clear H'
    try clear c2
    try clear p2
    obtain ⟨x5_1, rfl, HA, HK1, ⟨m1, rfl⟩⟩ := hrel
    cases gk with
    | zero => exact absurd HA.out (by simp [spec_ScHas.l0])
    | succ k1 =>
      have H := HA.out
      clear HA
      simp only [spec_ScHas.l0] at H
      by_cases c3 : x5_1 < (a0.size : Int)
      · rw [if_pos c3] at H
        have c3b0 : decide (x5_1 < (a0.size : Int)) = true := decide_eq_true c3
        clear c3
        by_cases c4 : 0 ≤ x5_1
        · rw [if_pos c4] at H
          have c4b0 : decide (0 ≤ x5_1) = true := decide_eq_true c4
          clear c4
          by_cases c6 : (bt a0 x5_1) = a1
          · rw [if_pos c6] at H
            have c6b0 : ((bt a0 x5_1) == a1) = true := beq_iff_eq.mpr c6
            have c6b1 : ((bt a0 x5_1) != a1) = false := bne_eq_false_iff_eq.mpr c6
            clear c6
            obtain rfl := Option.some.inj H
            have p5 : 0 ≤ (x5_1 : Int) := of_decide_eq_true (by first | (with_reducible assumption) | assumption)
            have q5 : x5_1 < (a0.size : Int) := of_decide_eq_true (by first | (with_reducible assumption) | assumption)
            have hx5 := bt_at a0 x5_1
            replace p5 := eq_true p5
            replace q5 := eq_true q5
            go_wp2
            go_ret
            exact ⟨by first | rfl | (simp; done) | (simp [*]; done), by repeat (first | exact Drawn0.refl _ | apply Drawn0.step)⟩
          · rw [if_neg c6] at H
            have c6b0 : ((bt a0 x5_1) == a1) = false := beq_eq_false_iff_ne.mpr c6
            have c6b1 : ((bt a0 x5_1) != a1) = true := bne_iff_ne.mpr c6
            have H' := Aside0.mk H
            clear H
            have p5 : 0 ≤ (x5_1 : Int) := of_decide_eq_true (by first | (with_reducible assumption) | assumption)
            have q5 : x5_1 < (a0.size : Int) := of_decide_eq_true (by first | (with_reducible assumption) | assumption)
            have hx5 := bt_at a0 x5_1
            replace p5 := eq_true p5
            replace q5 := eq_true q5
            go_wp2
            go_roundg k1
            case measure => have := HK1.out; omega
            case rel => exact ⟨(wrap64 (x5_1 + 1)), (by first | rfl | (simp; done) | (simp [*]; done)), H', ⟨by have := HK1.out; omega⟩, by repeat (first | exact Drawn0.refl _ | apply Drawn0.step)⟩
        · rw [if_neg c4] at H
          exact absurd H (by simp)
      · rw [if_neg c3] at H
        have c3b0 : decide (x5_1 < (a0.size : Int)) = false := decide_eq_false c3
        clear c3
        obtain rfl := Option.some.inj H
        go_wp2
        go_ret
        exact ⟨by first | rfl | (simp; done) | (simp [*]; done), by repeat (first | exact Drawn0.refl _ | apply Drawn0.step)⟩

end Go.Proofs.Ytcblhkcdolaigaa.PFnShellNameBraces

-- PRINTED BY print.sh 35421559b90ae4d0a3588c463048766b98c2df88dd9212a6774a882060cdf62d: not written by this session
import Derived.Test.YtcblhkcdolaigaaPFnShellNamex0
import Derived.Test.YtcblhkcdolaigaaPFnShellNamex1
import Derived.Test.YtcblhkcdolaigaaPFnShellNamex2
namespace Go.Proofs.Ytcblhkcdolaigaa.PFnShellName
open Go.RowKit Go.Proofs.YtcblhkcdolaigaaW.PrintWords Go.Proofs.YtcblhkcdolaigaaW.PrintLast Go.Proofs.YtcblhkcdolaigaaW.PrintMore
attribute [local go_sem] max2_int min2_int max_two min_two max_three min_three max_four min_four   -- for this text's walks alone
set_option linter.unusedVariables false
set_option linter.unusedSimpArgs false

/-! ### laws_FnShellName: function 6 -/
def laws_FnShellName.j0 : Nat → ByteArray → ByteArray → Bool → Option (Bool)
  | 0, _, _, _ => none
  | k + 1, x0, x1, x14 => if x14 = true then (some true) else ((spec_ScVariable.f k x0).bind fun t109 => (if t109 = true then (if x1.toList = ([] : List UInt8) then (if x0.size + x1.size ≤ 9223372036854775807 then ((impl_ShellName.f k (x0 ++ x1)).bind fun bt110 => (if bt110.1.toList = x0.toList then (some (bt110.2 == (x0.size : Int))) else (some false))) else (none)) else (if 0 < (x1.size : Int) then ((spec_ScAlnum.f (bt x1 0)).bind fun t112 => (if t112 = true then (some true) else (if x0.size + x1.size ≤ 9223372036854775807 then ((impl_ShellName.f k (x0 ++ x1)).bind fun bt113 => (if bt113.1.toList = x0.toList then (some (bt113.2 == (x0.size : Int))) else (some false))) else (none)))) else (none))) else (some true)))
def laws_FnShellName.f (k : Nat) (a0 : ByteArray) (a1 : ByteArray) : Option (Bool) := if (a0.size : Int) > 2147483647 then (laws_FnShellName.j0 k a0 a1 true) else (laws_FnShellName.j0 k a0 a1 (decide ((a1.size : Int) > 2147483647)))
theorem laws_FnShellName.mono_l : ∀ k, (∀ y0 y1 y2, LeO (laws_FnShellName.j0 k y0 y1 y2) (laws_FnShellName.j0 (k + 1) y0 y1 y2))
  | 0 => fun _ _ _ r h => by simp [laws_FnShellName.j0] at h
  | k + 1 => by
    have ih0 := laws_FnShellName.mono_l k
    · intro y0 y1 y2
      unfold laws_FnShellName.j0
      repeat' first
      | (with_reducible exact ih0 _ _ _)
      | (with_reducible exact impl_ShellName.mono _ _)
      | (with_reducible exact spec_ScVariable.mono _ _)
      | (with_reducible exact LeO.refl _)
      | (with_reducible exact LeO.none _)
      | (with_reducible refine LeO.ite ?_ ?_)
      | (with_reducible refine LeO.bind ?_ (fun _ => ?_))
      | exact ih0 _ _ _
      | exact impl_ShellName.mono _ _
      | exact spec_ScVariable.mono _ _
      | exact LeO.none _
      | refine LeO.ite ?_ ?_
      | refine LeO.bind ?_ (fun _ => ?_)
theorem laws_FnShellName.mono : ∀ a0 a1 k, LeO (laws_FnShellName.f k a0 a1) (laws_FnShellName.f (k + 1) a0 a1) := by
  intro a0 a1 k
  have ih0 := laws_FnShellName.mono_l k
  unfold laws_FnShellName.f
  repeat' first
      | (with_reducible exact ih0 _ _ _)
      | (with_reducible exact impl_ShellName.mono _ _)
      | (with_reducible exact spec_ScVariable.mono _ _)
      | (with_reducible exact LeO.refl _)
      | (with_reducible exact LeO.none _)
      | (with_reducible refine LeO.ite ?_ ?_)
      | (with_reducible refine LeO.bind ?_ (fun _ => ?_))
      | exact ih0 _ _ _
      | exact impl_ShellName.mono _ _
      | exact spec_ScVariable.mono _ _
      | exact LeO.none _
      | refine LeO.ite ?_ ?_
      | refine LeO.bind ?_ (fun _ => ?_)
set_option maxHeartbeats 8000000 in
set_option maxRecDepth 100000 in
theorem laws_FnShellName.calls (k : Nat) (a0 : ByteArray) (a1 : ByteArray) (r : Bool) (w : World) (h : laws_FnShellName.f k a0 a1 = some r) :
    Calls Try.prog 6 #[.string a0, .string a1] w fun e w' => e = .returned (.bool r) ∧ Drawn0 w w' := by
  have H : (if (a0.size : Int) > 2147483647 then (laws_FnShellName.j0 k a0 a1 true) else (laws_FnShellName.j0 k a0 a1 (decide ((a1.size : Int) > 2147483647)))) = some r := h
  clear h
  have HC3 := Aside0.mk H
  clear H
  go_enter Try.func6, Try.ntmps6
  go_upto_region 1 with (fail)
  go_cut [14] (fun v14 wc => ∃ (kq : Nat) (x14_2 : Bool), v14 = .bool x14_2 ∧ Aside0 (laws_FnShellName.j0 kq a0 a1 x14_2 = some r) ∧ Aside0 (kq ≤ k) ∧ Drawn0 w wc)
  case first =>
    have H := HC3.out
    clear HC3
    by_cases c4 : (a0.size : Int) > 2147483647
    · rw [if_pos c4] at H
      have c4b0 : decide (2147483647 < (a0.size : Int)) = true := decide_eq_true c4
      have c4b1 : decide (2147483647 < a0.size) = true := decide_eq_true (by omega)
      clear c4
      (first | rw [c4b0] | (simp only [i64_w, i32_w]; rw [c4b0]) | skip)
      have H' := Aside0.mk H
      clear H
      go_wp2
      go_meet
      case rel => exact ⟨_, (true), (by first | rfl | (simp; done) | (simp [*]; done)), H', ⟨by first | omega | exact Nat.le_refl _⟩, by repeat (first | exact Drawn0.refl _ | apply Drawn0.step)⟩
    · rw [if_neg c4] at H
      have c4b0 : decide (2147483647 < (a0.size : Int)) = false := decide_eq_false c4
      have c4b1 : decide (2147483647 < a0.size) = false := decide_eq_false (by omega)
      clear c4
      (first | rw [c4b0] | (simp only [i64_w, i32_w]; rw [c4b0]) | skip)
      have H' := Aside0.mk H
      clear H
      go_wp2
      go_meet
      case rel => exact ⟨_, (decide ((a1.size : Int) > 2147483647)), (by first | rfl | (simp; done) | (simp [*]; done)), H', ⟨by first | omega | exact Nat.le_refl _⟩, by repeat (first | exact Drawn0.refl _ | apply Drawn0.step)⟩
  case rest =>
    clear HC3
    try clear p2
    try clear c4
    try clear c4b0
    try clear c4b1
    obtain ⟨kq, x14_2, rfl, HA, HJ2, ⟨mc2, rfl⟩⟩ := hcut
    cases kq with
    | zero => exact absurd HA.out (by simp [laws_FnShellName.j0])
    | succ kj2 =>
      have H := HA.out
      clear HA
      simp only [laws_FnShellName.j0] at H
      by_cases c5 : x14_2 = true
      · subst c5
        have H1 : (some true) = some r := by rw [if_pos rfl] at H; exact H
        clear H
        have H := H1
        clear H1
        obtain rfl := Option.some.inj H
        go_wp2
        go_ret
        exact ⟨by first | rfl | (simp; done) | (simp [*]; done), by repeat (first | exact Drawn0.refl _ | apply Drawn0.step)⟩
      · replace c5 := Bool.eq_false_iff.mpr c5
        subst c5
        have H1 : ((spec_ScVariable.f kj2 a0).bind fun t109 => (if t109 = true then (if a1.toList = ([] : List UInt8) then (if a0.size + a1.size ≤ 9223372036854775807 then ((impl_ShellName.f kj2 (a0 ++ a1)).bind fun bt110 => (if bt110.1.toList = a0.toList then (some (bt110.2 == (a0.size : Int))) else (some false))) else (none)) else (if 0 < (a1.size : Int) then ((spec_ScAlnum.f (bt a1 0)).bind fun t112 => (if t112 = true then (some true) else (if a0.size + a1.size ≤ 9223372036854775807 then ((impl_ShellName.f kj2 (a0 ++ a1)).bind fun bt113 => (if bt113.1.toList = a0.toList then (some (bt113.2 == (a0.size : Int))) else (some false))) else (none)))) else (none))) else (some true))) = some r := by rw [if_neg (show ¬ (false = true) by decide)] at H; exact H
        clear H
        have H := H1
        clear H1
        replace H := Option.bind_eq_some_iff.mp H
        obtain ⟨t109, A60, H⟩ := H
        replace H : (if t109 = true then (if a1.toList = ([] : List UInt8) then (if a0.size + a1.size ≤ 9223372036854775807 then ((impl_ShellName.f kj2 (a0 ++ a1)).bind fun bt110 => (if bt110.1.toList = a0.toList then (some (bt110.2 == (a0.size : Int))) else (some false))) else (none)) else (if 0 < (a1.size : Int) then ((spec_ScAlnum.f (bt a1 0)).bind fun t112 => (if t112 = true then (some true) else (if a0.size + a1.size ≤ 9223372036854775807 then ((impl_ShellName.f kj2 (a0 ++ a1)).bind fun bt113 => (if bt113.1.toList = a0.toList then (some (bt113.2 == (a0.size : Int))) else (some false))) else (none)))) else (none))) else (some true)) = some r := H
        have A6 := Aside0.mk A60
        clear A60
        by_cases c7 : t109 = true
        · subst c7
          have H1 : (if a1.toList = ([] : List UInt8) then (if a0.size + a1.size ≤ 9223372036854775807 then ((impl_ShellName.f kj2 (a0 ++ a1)).bind fun bt110 => (if bt110.1.toList = a0.toList then (some (bt110.2 == (a0.size : Int))) else (some false))) else (none)) else (if 0 < (a1.size : Int) then ((spec_ScAlnum.f (bt a1 0)).bind fun t112 => (if t112 = true then (some true) else (if a0.size + a1.size ≤ 9223372036854775807 then ((impl_ShellName.f kj2 (a0 ++ a1)).bind fun bt113 => (if bt113.1.toList = a0.toList then (some (bt113.2 == (a0.size : Int))) else (some false))) else (none)))) else (none))) = some r := by rw [if_pos rfl] at H; exact H
          clear H
          have H := H1
          clear H1
          by_cases c8 : a1.toList = ([] : List UInt8)
          · rw [if_pos c8] at H
            have c8b0 : (a1.toList == ([] : List UInt8)) = true := beq_iff_eq.mpr c8
            have c8b1 : (a1.toList != ([] : List UInt8)) = false := bne_eq_false_iff_eq.mpr c8
            clear c8
            by_cases c9 : a0.size + a1.size ≤ 9223372036854775807
            · rw [if_pos c9] at H
              have c9b0 := eq_true c9
              have c9b1 : decide (a0.size + a1.size ≤ 9223372036854775807) = true := decide_eq_true c9
              try have c9b2 : (9223372036854775807 < a0.size + a1.size) = False := eq_false (Nat.not_lt.2 c9)
              replace H := Option.bind_eq_some_iff.mp H
              obtain ⟨⟨t110, t111⟩, A100, H⟩ := H
              replace H : (if t110.toList = a0.toList then (some (t111 == (a0.size : Int))) else (some false)) = some r := H
              have A10 := Aside0.mk A100
              clear A100
              by_cases c11 : t110.toList = a0.toList
              · rw [if_pos c11] at H
                have c11b0 : (t110.toList == a0.toList) = true := beq_iff_eq.mpr c11
                have c11b1 : (t110.toList != a0.toList) = false := bne_eq_false_iff_eq.mpr c11
                clear c11
                obtain rfl := Option.some.inj H
                go_wp2_with (first | ((with_reducible refine gate_callee (f := 18) rfl ?_); refine goesL_ (some 16) rfl rfl Try.func18 (by kernel_rfl) rfl #[.string a0] rfl (by (try simp only [List.map_toArray, List.map_cons, List.map_nil]); first | done | rfl | (simp only [List.length_drop, List.length_take]; rfl)) ?_; (with_reducible refine (spec_ScVariable.calls kj2 a0 true _ A6.out).mono ?_); rintro e w' ⟨rfl, ⟨nd, rfl⟩⟩; refine ⟨_, rfl, ?_⟩) | ((with_reducible refine gate_callee (f := 20) rfl ?_); refine goesL_ (some 31) rfl rfl Try.func20 (by kernel_rfl) rfl #[.string (a0 ++ a1)] rfl (by (try simp only [List.map_toArray, List.map_cons, List.map_nil]); first | done | rfl | (simp only [List.length_drop, List.length_take]; rfl)) ?_; (with_reducible refine (impl_ShellName.calls kj2 (a0 ++ a1) t110 t111 _ A10.out).mono ?_); rintro e w' ⟨rfl, ⟨nd, rfl⟩⟩; refine ⟨_, rfl, ?_⟩))
                go_ret
                exact ⟨by first | rfl | (simp; done) | (simp [*]; done), by repeat (first | exact Drawn0.refl _ | apply Drawn0.step)⟩
              · rw [if_neg c11] at H
                have c11b0 : (t110.toList == a0.toList) = false := beq_eq_false_iff_ne.mpr c11
                have c11b1 : (t110.toList != a0.toList) = true := bne_iff_ne.mpr c11
                obtain rfl := Option.some.inj H
                go_wp2_with (first | ((with_reducible refine gate_callee (f := 18) rfl ?_); refine goesL_ (some 16) rfl rfl Try.func18 (by kernel_rfl) rfl #[.string a0] rfl (by (try simp only [List.map_toArray, List.map_cons, List.map_nil]); first | done | rfl | (simp only [List.length_drop, List.length_take]; rfl)) ?_; (with_reducible refine (spec_ScVariable.calls kj2 a0 true _ A6.out).mono ?_); rintro e w' ⟨rfl, ⟨nd, rfl⟩⟩; refine ⟨_, rfl, ?_⟩) | ((with_reducible refine gate_callee (f := 20) rfl ?_); refine goesL_ (some 31) rfl rfl Try.func20 (by kernel_rfl) rfl #[.string (a0 ++ a1)] rfl (by (try simp only [List.map_toArray, List.map_cons, List.map_nil]); first | done | rfl | (simp only [List.length_drop, List.length_take]; rfl)) ?_; (with_reducible refine (impl_ShellName.calls kj2 (a0 ++ a1) t110 t111 _ A10.out).mono ?_); rintro e w' ⟨rfl, ⟨nd, rfl⟩⟩; refine ⟨_, rfl, ?_⟩))
                go_ret
                exact ⟨by first | rfl | (simp; done) | (simp [*]; done), by repeat (first | exact Drawn0.refl _ | apply Drawn0.step)⟩
            · rw [if_neg c9] at H
              exact absurd H (by simp)
          · rw [if_neg c8] at H
            have c8b0 : (a1.toList == ([] : List UInt8)) = false := beq_eq_false_iff_ne.mpr c8
            have c8b1 : (a1.toList != ([] : List UInt8)) = true := bne_iff_ne.mpr c8
            by_cases c12 : 0 < (a1.size : Int)
            · rw [if_pos c12] at H
              have c12b0 : decide (0 < (a1.size : Int)) = true := decide_eq_true c12
              have c12b1 : decide (0 < a1.size) = true := decide_eq_true (by omega)
              clear c12
              replace H := Option.bind_eq_some_iff.mp H
              obtain ⟨t112, A140, H⟩ := H
              replace H : (if t112 = true then (some true) else (if a0.size + a1.size ≤ 9223372036854775807 then ((impl_ShellName.f kj2 (a0 ++ a1)).bind fun bt113 => (if bt113.1.toList = a0.toList then (some (bt113.2 == (a0.size : Int))) else (some false))) else (none))) = some r := H
              have A14 := Aside0.mk A140
              clear A140
              by_cases c15 : t112 = true
              · subst c15
                have H1 : (some true) = some r := by rw [if_pos rfl] at H; exact H
                clear H
                have H := H1
                clear H1
                obtain rfl := Option.some.inj H
                go_wp2_with (first | ((with_reducible refine gate_callee (f := 18) rfl ?_); refine goesL_ (some 16) rfl rfl Try.func18 (by kernel_rfl) rfl #[.string a0] rfl (by (try simp only [List.map_toArray, List.map_cons, List.map_nil]); first | done | rfl | (simp only [List.length_drop, List.length_take]; rfl)) ?_; (with_reducible refine (spec_ScVariable.calls kj2 a0 true _ A6.out).mono ?_); rintro e w' ⟨rfl, ⟨nd, rfl⟩⟩; refine ⟨_, rfl, ?_⟩; have p13 : 0 ≤ (0 : Int) := (by omega); have q13 : 0 < a1.size := (by have : (0 : Int) < (a1.size : Int) := of_decide_eq_true (by first | (with_reducible assumption) | assumption); omega); have hx13 : ∀ h : 0 < a1.size, ((a1[0]'h).toNat : Int) = bt a1 0 := bt_at a1 0; clear p13; have qi13 : (0 < (a1.size : Int)) = True := eq_true (of_decide_eq_true (by first | (with_reducible assumption) | assumption)); replace q13 := eq_true q13) | (go_at_call 19; (with_reducible refine (spec_ScAlnum.calls (bt a1 0) true _ A14.out).mono ?_); rintro e w' ⟨rfl, ⟨nd, rfl⟩⟩))
                go_ret
                exact ⟨by first | rfl | (simp; done) | (simp [*]; done), by repeat (first | exact Drawn0.refl _ | apply Drawn0.step)⟩
              · replace c15 := Bool.eq_false_iff.mpr c15
                subst c15
                have H1 : (if a0.size + a1.size ≤ 9223372036854775807 then ((impl_ShellName.f kj2 (a0 ++ a1)).bind fun bt113 => (if bt113.1.toList = a0.toList then (some (bt113.2 == (a0.size : Int))) else (some false))) else (none)) = some r := by rw [if_neg (show ¬ (false = true) by decide)] at H; exact H
                clear H
                have H := H1
                clear H1
                by_cases c16 : a0.size + a1.size ≤ 9223372036854775807
                · rw [if_pos c16] at H
                  have c16b0 := eq_true c16
                  have c16b1 : decide (a0.size + a1.size ≤ 9223372036854775807) = true := decide_eq_true c16
                  try have c16b2 : (9223372036854775807 < a0.size + a1.size) = False := eq_false (Nat.not_lt.2 c16)
                  replace H := Option.bind_eq_some_iff.mp H
                  obtain ⟨⟨t113, t114⟩, A170, H⟩ := H
                  replace H : (if t113.toList = a0.toList then (some (t114 == (a0.size : Int))) else (some false)) = some r := H
                  have A17 := Aside0.mk A170
                  clear A170
                  by_cases c18 : t113.toList = a0.toList
                  · rw [if_pos c18] at H
                    have c18b0 : (t113.toList == a0.toList) = true := beq_iff_eq.mpr c18
                    have c18b1 : (t113.toList != a0.toList) = false := bne_eq_false_iff_eq.mpr c18
                    clear c18
                    obtain rfl := Option.some.inj H
                    go_wp2_with (first | ((with_reducible refine gate_callee (f := 18) rfl ?_); refine goesL_ (some 16) rfl rfl Try.func18 (by kernel_rfl) rfl #[.string a0] rfl (by (try simp only [List.map_toArray, List.map_cons, List.map_nil]); first | done | rfl | (simp only [List.length_drop, List.length_take]; rfl)) ?_; (with_reducible refine (spec_ScVariable.calls kj2 a0 true _ A6.out).mono ?_); rintro e w' ⟨rfl, ⟨nd, rfl⟩⟩; refine ⟨_, rfl, ?_⟩; have p13 : 0 ≤ (0 : Int) := (by omega); have q13 : 0 < a1.size := (by have : (0 : Int) < (a1.size : Int) := of_decide_eq_true (by first | (with_reducible assumption) | assumption); omega); have hx13 : ∀ h : 0 < a1.size, ((a1[0]'h).toNat : Int) = bt a1 0 := bt_at a1 0; clear p13; have qi13 : (0 < (a1.size : Int)) = True := eq_true (of_decide_eq_true (by first | (with_reducible assumption) | assumption)); replace q13 := eq_true q13) | (go_at_call 19; (with_reducible refine (spec_ScAlnum.calls (bt a1 0) false _ A14.out).mono ?_); rintro e w' ⟨rfl, ⟨nd, rfl⟩⟩) | ((with_reducible refine gate_callee (f := 20) rfl ?_); refine goesL_ (some 31) rfl rfl Try.func20 (by kernel_rfl) rfl #[.string (a0 ++ a1)] rfl (by (try simp only [List.map_toArray, List.map_cons, List.map_nil]); first | done | rfl | (simp only [List.length_drop, List.length_take]; rfl)) ?_; (with_reducible refine (impl_ShellName.calls kj2 (a0 ++ a1) t113 t114 _ A17.out).mono ?_); rintro e w' ⟨rfl, ⟨nd, rfl⟩⟩; refine ⟨_, rfl, ?_⟩))
                    go_ret
                    exact ⟨by first | rfl | (simp; done) | (simp [*]; done), by repeat (first | exact Drawn0.refl _ | apply Drawn0.step)⟩
                  · rw [if_neg c18] at H
                    have c18b0 : (t113.toList == a0.toList) = false := beq_eq_false_iff_ne.mpr c18
                    have c18b1 : (t113.toList != a0.toList) = true := bne_iff_ne.mpr c18
                    obtain rfl := Option.some.inj H
                    go_wp2_with (first | ((with_reducible refine gate_callee (f := 18) rfl ?_); refine goesL_ (some 16) rfl rfl Try.func18 (by kernel_rfl) rfl #[.string a0] rfl (by (try simp only [List.map_toArray, List.map_cons, List.map_nil]); first | done | rfl | (simp only [List.length_drop, List.length_take]; rfl)) ?_; (with_reducible refine (spec_ScVariable.calls kj2 a0 true _ A6.out).mono ?_); rintro e w' ⟨rfl, ⟨nd, rfl⟩⟩; refine ⟨_, rfl, ?_⟩; have p13 : 0 ≤ (0 : Int) := (by omega); have q13 : 0 < a1.size := (by have : (0 : Int) < (a1.size : Int) := of_decide_eq_true (by first | (with_reducible assumption) | assumption); omega); have hx13 : ∀ h : 0 < a1.size, ((a1[0]'h).toNat : Int) = bt a1 0 := bt_at a1 0; clear p13; have qi13 : (0 < (a1.size : Int)) = True := eq_true (of_decide_eq_true (by first | (with_reducible assumption) | assumption)); replace q13 := eq_true q13) | (go_at_call 19; (with_reducible refine (spec_ScAlnum.calls (bt a1 0) false _ A14.out).mono ?_); rintro e w' ⟨rfl, ⟨nd, rfl⟩⟩) | ((with_reducible refine gate_callee (f := 20) rfl ?_); refine goesL_ (some 31) rfl rfl Try.func20 (by kernel_rfl) rfl #[.string (a0 ++ a1)] rfl (by (try simp only [List.map_toArray, List.map_cons, List.map_nil]); first | done | rfl | (simp only [List.length_drop, List.length_take]; rfl)) ?_; (with_reducible refine (impl_ShellName.calls kj2 (a0 ++ a1) t113 t114 _ A17.out).mono ?_); rintro e w' ⟨rfl, ⟨nd, rfl⟩⟩; refine ⟨_, rfl, ?_⟩))
                    go_ret
                    exact ⟨by first | rfl | (simp; done) | (simp [*]; done), by repeat (first | exact Drawn0.refl _ | apply Drawn0.step)⟩
                · rw [if_neg c16] at H
                  exact absurd H (by simp)
            · rw [if_neg c12] at H
              exact absurd H (by simp)
        · replace c7 := Bool.eq_false_iff.mpr c7
          subst c7
          have H1 : (some true) = some r := by rw [if_neg (show ¬ (false = true) by decide)] at H; exact H
          clear H
          have H := H1
          clear H1
          obtain rfl := Option.some.inj H
          go_wp2_with (first | ((with_reducible refine gate_callee (f := 18) rfl ?_); refine goesL_ (some 16) rfl rfl Try.func18 (by kernel_rfl) rfl #[.string a0] rfl (by (try simp only [List.map_toArray, List.map_cons, List.map_nil]); first | done | rfl | (simp only [List.length_drop, List.length_take]; rfl)) ?_; (with_reducible refine (spec_ScVariable.calls kj2 a0 false _ A6.out).mono ?_); rintro e w' ⟨rfl, ⟨nd, rfl⟩⟩; refine ⟨_, rfl, ?_⟩))
          go_ret
          exact ⟨by first | rfl | (simp; done) | (simp [*]; done), by repeat (first | exact Drawn0.refl _ | apply Drawn0.step)⟩

/-- THE ONE PURE STATEMENT of laws_FnShellName: yours. -/
def laws_FnShellName.Pure : Prop := ∀ (a0 : ByteArray) (a1 : ByteArray), a0.size ≤ 140737488351232 → a1.size ≤ 140737488351232 → ∃ k, laws_FnShellName.f k a0 a1 = some true
theorem laws_FnShellName.walk (P : laws_FnShellName.Pure) (a0 : ByteArray) (a1 : ByteArray) (w : World) (w0 : a0.size ≤ 140737488351232) (w1 : a1.size ≤ 140737488351232) :
    Calls Try.prog 6 #[.string a0, .string a1] w fun e w' => e = .returned (.bool true) ∧ Below w.heap.size w w' := by
  obtain ⟨k, h⟩ := P a0 a1 w0 w1
  refine (laws_FnShellName.calls k a0 a1 true w h).mono ?_
  rintro e w' ⟨rfl, hd⟩
  exact ⟨rfl, hd.below⟩

end Go.Proofs.Ytcblhkcdolaigaa.PFnShellName

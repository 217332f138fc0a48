-- PRINTED BY print.sh 35421559b90ae4d0a3588c463048766b98c2df88dd9212a6774a882060cdf62d: not written by this session
import Derived.Test.YtcblhkcdolaigaaPFnSignSizeMorex0
namespace Go.Proofs.Ytcblhkcdolaigaa.PFnSignSizeMore
open Go.RowKit Go.Proofs.YtcblhkcdolaigaaW.PrintWords Go.Proofs.YtcblhkcdolaigaaW.PrintLast Go.Proofs.YtcblhkcdolaigaaW.PrintMore
attribute [local go_sem] max2_int min2_int max_two min_two max_three min_three max_four min_four   -- for this text's walks alone
set_option linter.unusedVariables false
set_option linter.unusedSimpArgs false

/-! ### codesign_Size: function 28 -/
def codesign_Size.f (a0 : Int) (a1 : ByteArray) : Option (Int) := some (wrap64 (20 + (wrap64 ((wrap64 (88 + (wrap64 ((a1.size : Int) + 1)))) + (wrap64 ((wrap64 (Int.tdiv (wrap64 ((wrap64 (a0 + 4096)) - 1)) 4096)) * 32))))))
set_option maxHeartbeats 8000000 in
set_option maxRecDepth 100000 in
theorem codesign_Size.calls (a0 : Int) (a1 : ByteArray) (r : Int) (w : World) (h : codesign_Size.f a0 a1 = some r) :
    Calls Try.prog 28 #[.int .i64 a0, .string a1] w fun e w' => e = .returned (.int .i64 r) ∧ Drawn0 w w' := by
  have H : (some (wrap64 (20 + (wrap64 ((wrap64 (88 + (wrap64 ((a1.size : Int) + 1)))) + (wrap64 ((wrap64 (Int.tdiv (wrap64 ((wrap64 (a0 + 4096)) - 1)) 4096)) * 32))))))) = some r := h
  clear h
  obtain rfl := Option.some.inj H
  go_enter Try.func28, Try.ntmps28
  go_wp2
  go_ret
  exact ⟨by first | rfl | (simp; done) | (simp [*]; done), by repeat (first | exact Drawn0.refl _ | apply Drawn0.step)⟩

/-! ### impl_SignatureSize: function 12 -/
def impl_SignatureSize.f (a0 : Int) (a1 : ByteArray) : Option (Int) := (codesign_Size.f a0 a1).bind fun t101 => (some t101)
set_option maxHeartbeats 8000000 in
set_option maxRecDepth 100000 in
theorem impl_SignatureSize.calls (a0 : Int) (a1 : ByteArray) (r : Int) (w : World) (h : impl_SignatureSize.f a0 a1 = some r) :
    Calls Try.prog 12 #[.int .i64 a0, .string a1] w fun e w' => e = .returned (.int .i64 r) ∧ Drawn0 w w' := by
  have H : ((codesign_Size.f a0 a1).bind fun t101 => (some t101)) = some r := h
  clear h
  replace H := Option.bind_eq_some_iff.mp H
  obtain ⟨t101, A30, H⟩ := H
  replace H : (some t101) = some r := H
  have A3 := Aside0.mk A30
  clear A30
  obtain rfl := Option.some.inj H
  go_enter Try.func12, Try.ntmps12
  go_wp2_with (first | ((with_reducible refine gate_callee (f := 28) rfl ?_); refine goesL_ (some 7) rfl rfl Try.func28 (by kernel_rfl) rfl #[.int .i64 a0, .string a1] rfl (by (try simp only [List.map_toArray, List.map_cons, List.map_nil]); first | done | rfl | (simp only [List.length_drop, List.length_take]; rfl)) ?_; (with_reducible refine (codesign_Size.calls a0 a1 t101 _ A3.out).mono ?_); rintro e w' ⟨rfl, ⟨nd, rfl⟩⟩; refine ⟨_, rfl, ?_⟩))
  go_ret
  exact ⟨by first | rfl | (simp; done) | (simp [*]; done), by repeat (first | exact Drawn0.refl _ | apply Drawn0.step)⟩

/-! ### laws_FnSignSizeMore: function 4 -/
def laws_FnSignSizeMore.j0 : Nat → Int → ByteArray → Bool → Option (Bool)
  | 0, _, _, _ => none
  | k + 1, x0, x1, x14 => if x14 = true then (some true) else ((impl_SignatureSize.f x0 x1).bind fun t102 => ((impl_SignatureSize.f (wrap64 (x0 + 4096)) x1).bind fun t103 => (if t103 = (wrap64 (t102 + 32)) then (if x1.size + 1 ≤ 9223372036854775807 then ((impl_SignatureSize.f x0 (x1 ++ (⟨#[120]⟩ : ByteArray))).bind fun t104 => (if t104 = (wrap64 (t102 + 1)) then (some (decide (t102 > 0))) else (some false))) else (none)) else (some false))))
def laws_FnSignSizeMore.f (k : Nat) (a0 : Int) (a1 : ByteArray) : Option (Bool) := if (a1.size : Int) > 2147483647 then (some true) else (if a0 < 0 then (laws_FnSignSizeMore.j0 k a0 a1 true) else (laws_FnSignSizeMore.j0 k a0 a1 (decide (a0 > 1125899906842624))))
theorem laws_FnSignSizeMore.mono_l : ∀ k, (∀ y0 y1 y2, LeO (laws_FnSignSizeMore.j0 k y0 y1 y2) (laws_FnSignSizeMore.j0 (k + 1) y0 y1 y2))
  | 0 => fun _ _ _ r h => by simp [laws_FnSignSizeMore.j0] at h
  | k + 1 => by
    have ih0 := laws_FnSignSizeMore.mono_l k
    · intro y0 y1 y2
      unfold laws_FnSignSizeMore.j0
      repeat' first
      | (with_reducible exact ih0 _ _ _)
      | (with_reducible exact LeO.refl _)
      | (with_reducible exact LeO.none _)
      | (with_reducible refine LeO.ite ?_ ?_)
      | (with_reducible refine LeO.bind ?_ (fun _ => ?_))
      | exact ih0 _ _ _
      | exact LeO.none _
      | refine LeO.ite ?_ ?_
      | refine LeO.bind ?_ (fun _ => ?_)
theorem laws_FnSignSizeMore.mono : ∀ a0 a1 k, LeO (laws_FnSignSizeMore.f k a0 a1) (laws_FnSignSizeMore.f (k + 1) a0 a1) := by
  intro a0 a1 k
  have ih0 := laws_FnSignSizeMore.mono_l k
  unfold laws_FnSignSizeMore.f
  repeat' first
      | (with_reducible exact ih0 _ _ _)
      | (with_reducible exact LeO.refl _)
      | (with_reducible exact LeO.none _)
      | (with_reducible refine LeO.ite ?_ ?_)
      | (with_reducible refine LeO.bind ?_ (fun _ => ?_))
      | exact ih0 _ _ _
      | exact LeO.none _
      | refine LeO.ite ?_ ?_
      | refine LeO.bind ?_ (fun _ => ?_)
set_option maxHeartbeats 8000000 in
set_option maxRecDepth 100000 in
theorem laws_FnSignSizeMore.calls (k : Nat) (a0 : Int) (a1 : ByteArray) (r : Bool) (w : World) (h : laws_FnSignSizeMore.f k a0 a1 = some r) :
    Calls Try.prog 4 #[.int .i64 a0, .string a1] w fun e w' => e = .returned (.bool r) ∧ Drawn0 w w' := by
  have H : (if (a1.size : Int) > 2147483647 then (some true) else (if a0 < 0 then (laws_FnSignSizeMore.j0 k a0 a1 true) else (laws_FnSignSizeMore.j0 k a0 a1 (decide (a0 > 1125899906842624))))) = some r := h
  clear h
  by_cases c3 : (a1.size : Int) > 2147483647
  · rw [if_pos c3] at H
    have c3b0 : decide (2147483647 < (a1.size : Int)) = true := decide_eq_true c3
    have c3b1 : decide (2147483647 < a1.size) = true := decide_eq_true (by omega)
    clear c3
    obtain rfl := Option.some.inj H
    go_enter Try.func4, Try.ntmps4
    go_wp2
    go_ret
    exact ⟨by first | rfl | (simp; done) | (simp [*]; done), by repeat (first | exact Drawn0.refl _ | apply Drawn0.step)⟩
  · rw [if_neg c3] at H
    have c3b0 : decide (2147483647 < (a1.size : Int)) = false := decide_eq_false c3
    have c3b1 : decide (2147483647 < a1.size) = false := decide_eq_false (by omega)
    clear c3
    have HC4 := Aside0.mk H
    clear H
    go_enter Try.func4, Try.ntmps4
    go_upto_region 3 with (fail)
    go_cut [14] (fun v14 wc => ∃ (kq : Nat) (x14_3 : Bool), v14 = .bool x14_3 ∧ Aside0 (laws_FnSignSizeMore.j0 kq a0 a1 x14_3 = some r) ∧ Aside0 (kq ≤ k) ∧ Drawn0 w wc)
    case first =>
      have H := HC4.out
      clear HC4
      by_cases c5 : a0 < 0
      · rw [if_pos c5] at H
        have c5b0 : decide (a0 < 0) = true := decide_eq_true c5
        clear c5
        (first | rw [c5b0] | (simp only [i64_w, i32_w]; rw [c5b0]) | skip)
        have H' := Aside0.mk H
        clear H
        go_wp2
        go_meet
        case rel => exact ⟨_, (true), (by first | rfl | (simp; done) | (simp [*]; done)), H', ⟨by first | omega | exact Nat.le_refl _⟩, by repeat (first | exact Drawn0.refl _ | apply Drawn0.step)⟩
      · rw [if_neg c5] at H
        have c5b0 : decide (a0 < 0) = false := decide_eq_false c5
        clear c5
        (first | rw [c5b0] | (simp only [i64_w, i32_w]; rw [c5b0]) | skip)
        have H' := Aside0.mk H
        clear H
        go_wp2
        go_meet
        case rel => exact ⟨_, (decide (a0 > 1125899906842624)), (by first | rfl | (simp; done) | (simp [*]; done)), H', ⟨by first | omega | exact Nat.le_refl _⟩, by repeat (first | exact Drawn0.refl _ | apply Drawn0.step)⟩
    case rest =>
      clear HC4
      try clear p2
      try clear c3
      try clear c3b0
      try clear c3b1
      try clear c4
      try clear c5
      try clear c5b0
      obtain ⟨kq, x14_3, rfl, HA, HJ3, ⟨mc3, rfl⟩⟩ := hcut
      cases kq with
      | zero => exact absurd HA.out (by simp [laws_FnSignSizeMore.j0])
      | succ kj3 =>
        have H := HA.out
        clear HA
        simp only [laws_FnSignSizeMore.j0] at H
        by_cases c6 : x14_3 = true
        · subst c6
          have H1 : (some true) = some r := by rw [if_pos rfl] at H; exact H
          clear H
          have H := H1
          clear H1
          obtain rfl := Option.some.inj H
          go_wp2
          go_ret
          exact ⟨by first | rfl | (simp; done) | (simp [*]; done), by repeat (first | exact Drawn0.refl _ | apply Drawn0.step)⟩
        · replace c6 := Bool.eq_false_iff.mpr c6
          subst c6
          have H1 : ((impl_SignatureSize.f a0 a1).bind fun t102 => ((impl_SignatureSize.f (wrap64 (a0 + 4096)) a1).bind fun t103 => (if t103 = (wrap64 (t102 + 32)) then (if a1.size + 1 ≤ 9223372036854775807 then ((impl_SignatureSize.f a0 (a1 ++ (⟨#[120]⟩ : ByteArray))).bind fun t104 => (if t104 = (wrap64 (t102 + 1)) then (some (decide (t102 > 0))) else (some false))) else (none)) else (some false)))) = some r := by rw [if_neg (show ¬ (false = true) by decide)] at H; exact H
          clear H
          have H := H1
          clear H1
          replace H := Option.bind_eq_some_iff.mp H
          obtain ⟨t102, A70, H⟩ := H
          replace H : ((impl_SignatureSize.f (wrap64 (a0 + 4096)) a1).bind fun t103 => (if t103 = (wrap64 (t102 + 32)) then (if a1.size + 1 ≤ 9223372036854775807 then ((impl_SignatureSize.f a0 (a1 ++ (⟨#[120]⟩ : ByteArray))).bind fun t104 => (if t104 = (wrap64 (t102 + 1)) then (some (decide (t102 > 0))) else (some false))) else (none)) else (some false))) = some r := H
          have A7 := Aside0.mk A70
          clear A70
          replace H := Option.bind_eq_some_iff.mp H
          obtain ⟨t103, A80, H⟩ := H
          replace H : (if t103 = (wrap64 (t102 + 32)) then (if a1.size + 1 ≤ 9223372036854775807 then ((impl_SignatureSize.f a0 (a1 ++ (⟨#[120]⟩ : ByteArray))).bind fun t104 => (if t104 = (wrap64 (t102 + 1)) then (some (decide (t102 > 0))) else (some false))) else (none)) else (some false)) = some r := H
          have A8 := Aside0.mk A80
          clear A80
          by_cases c9 : t103 = (wrap64 (t102 + 32))
          · rw [if_pos c9] at H
            have c9b0 : (t103 == (wrap64 (t102 + 32))) = true := beq_iff_eq.mpr c9
            have c9b1 : (t103 != (wrap64 (t102 + 32))) = false := bne_eq_false_iff_eq.mpr c9
            clear c9
            by_cases c10 : a1.size + 1 ≤ 9223372036854775807
            · rw [if_pos c10] at H
              have c10b0 := eq_true c10
              have c10b1 : decide (a1.size + 1 ≤ 9223372036854775807) = true := decide_eq_true c10
              try have c10b2 : (9223372036854775807 < a1.size + 1) = False := eq_false (Nat.not_lt.2 c10)
              replace H := Option.bind_eq_some_iff.mp H
              obtain ⟨t104, A110, H⟩ := H
              replace H : (if t104 = (wrap64 (t102 + 1)) then (some (decide (t102 > 0))) else (some false)) = some r := H
              have A11 := Aside0.mk A110
              clear A110
              by_cases c12 : t104 = (wrap64 (t102 + 1))
              · rw [if_pos c12] at H
                have c12b0 : (t104 == (wrap64 (t102 + 1))) = true := beq_iff_eq.mpr c12
                have c12b1 : (t104 != (wrap64 (t102 + 1))) = false := bne_eq_false_iff_eq.mpr c12
                clear c12
                obtain rfl := Option.some.inj H
                go_wp2_with (first | ((with_reducible refine gate_callee (f := 12) rfl ?_); refine goesL_ (some 17) rfl rfl Try.func12 (by kernel_rfl) rfl #[.int .i64 a0, .string a1] rfl (by (try simp only [List.map_toArray, List.map_cons, List.map_nil]); first | done | rfl | (simp only [List.length_drop, List.length_take]; rfl)) ?_; (with_reducible refine (impl_SignatureSize.calls a0 a1 t102 _ A7.out).mono ?_); rintro e w' ⟨rfl, ⟨nd, rfl⟩⟩; refine ⟨_, rfl, ?_⟩) | ((with_reducible refine gate_callee (f := 12) rfl ?_); refine goesL_ (some 21) rfl rfl Try.func12 (by kernel_rfl) rfl #[.int .i64 (wrap64 (a0 + 4096)), .string a1] rfl (by (try simp only [List.map_toArray, List.map_cons, List.map_nil]); first | done | rfl | (simp only [List.length_drop, List.length_take]; rfl)) ?_; (with_reducible refine (impl_SignatureSize.calls (wrap64 (a0 + 4096)) a1 t103 _ A8.out).mono ?_); rintro e w' ⟨rfl, ⟨nd, rfl⟩⟩; refine ⟨_, rfl, ?_⟩) | (go_at_call 12; (with_reducible refine (impl_SignatureSize.calls a0 (a1 ++ (⟨#[120]⟩ : ByteArray)) t104 _ A11.out).mono ?_); rintro e w' ⟨rfl, ⟨nd, rfl⟩⟩))
                go_ret
                exact ⟨by first | rfl | (simp; done) | (simp [*]; done), by repeat (first | exact Drawn0.refl _ | apply Drawn0.step)⟩
              · rw [if_neg c12] at H
                have c12b0 : (t104 == (wrap64 (t102 + 1))) = false := beq_eq_false_iff_ne.mpr c12
                have c12b1 : (t104 != (wrap64 (t102 + 1))) = true := bne_iff_ne.mpr c12
                obtain rfl := Option.some.inj H
                go_wp2_with (first | ((with_reducible refine gate_callee (f := 12) rfl ?_); refine goesL_ (some 17) rfl rfl Try.func12 (by kernel_rfl) rfl #[.int .i64 a0, .string a1] rfl (by (try simp only [List.map_toArray, List.map_cons, List.map_nil]); first | done | rfl | (simp only [List.length_drop, List.length_take]; rfl)) ?_; (with_reducible refine (impl_SignatureSize.calls a0 a1 t102 _ A7.out).mono ?_); rintro e w' ⟨rfl, ⟨nd, rfl⟩⟩; refine ⟨_, rfl, ?_⟩) | ((with_reducible refine gate_callee (f := 12) rfl ?_); refine goesL_ (some 21) rfl rfl Try.func12 (by kernel_rfl) rfl #[.int .i64 (wrap64 (a0 + 4096)), .string a1] rfl (by (try simp only [List.map_toArray, List.map_cons, List.map_nil]); first | done | rfl | (simp only [List.length_drop, List.length_take]; rfl)) ?_; (with_reducible refine (impl_SignatureSize.calls (wrap64 (a0 + 4096)) a1 t103 _ A8.out).mono ?_); rintro e w' ⟨rfl, ⟨nd, rfl⟩⟩; refine ⟨_, rfl, ?_⟩) | (go_at_call 12; (with_reducible refine (impl_SignatureSize.calls a0 (a1 ++ (⟨#[120]⟩ : ByteArray)) t104 _ A11.out).mono ?_); rintro e w' ⟨rfl, ⟨nd, rfl⟩⟩))
                go_ret
                exact ⟨by first | rfl | (simp; done) | (simp [*]; done), by repeat (first | exact Drawn0.refl _ | apply Drawn0.step)⟩
            · rw [if_neg c10] at H
              exact absurd H (by simp)
          · rw [if_neg c9] at H
            have c9b0 : (t103 == (wrap64 (t102 + 32))) = false := beq_eq_false_iff_ne.mpr c9
            have c9b1 : (t103 != (wrap64 (t102 + 32))) = true := bne_iff_ne.mpr c9
            obtain rfl := Option.some.inj H
            go_wp2_with (first | ((with_reducible refine gate_callee (f := 12) rfl ?_); refine goesL_ (some 17) rfl rfl Try.func12 (by kernel_rfl) rfl #[.int .i64 a0, .string a1] rfl (by (try simp only [List.map_toArray, List.map_cons, List.map_nil]); first | done | rfl | (simp only [List.length_drop, List.length_take]; rfl)) ?_; (with_reducible refine (impl_SignatureSize.calls a0 a1 t102 _ A7.out).mono ?_); rintro e w' ⟨rfl, ⟨nd, rfl⟩⟩; refine ⟨_, rfl, ?_⟩) | ((with_reducible refine gate_callee (f := 12) rfl ?_); refine goesL_ (some 21) rfl rfl Try.func12 (by kernel_rfl) rfl #[.int .i64 (wrap64 (a0 + 4096)), .string a1] rfl (by (try simp only [List.map_toArray, List.map_cons, List.map_nil]); first | done | rfl | (simp only [List.length_drop, List.length_take]; rfl)) ?_; (with_reducible refine (impl_SignatureSize.calls (wrap64 (a0 + 4096)) a1 t103 _ A8.out).mono ?_); rintro e w' ⟨rfl, ⟨nd, rfl⟩⟩; refine ⟨_, rfl, ?_⟩))
            go_ret
            exact ⟨by first | rfl | (simp; done) | (simp [*]; done), by repeat (first | exact Drawn0.refl _ | apply Drawn0.step)⟩

/-- THE ONE PURE STATEMENT of laws_FnSignSizeMore: yours. -/
def laws_FnSignSizeMore.Pure : Prop := ∀ (a0 : Int) (a1 : ByteArray), (Lit.int .i64 a0).wf = true → a1.size ≤ 140737488351232 → ∃ k, laws_FnSignSizeMore.f k a0 a1 = some true
theorem laws_FnSignSizeMore.walk (P : laws_FnSignSizeMore.Pure) (a0 : Int) (a1 : ByteArray) (w : World) (w0 : (Lit.int .i64 a0).wf = true) (w1 : a1.size ≤ 140737488351232) :
    Calls Try.prog 4 #[.int .i64 a0, .string a1] w fun e w' => e = .returned (.bool true) ∧ Below w.heap.size w w' := by
  obtain ⟨k, h⟩ := P a0 a1 w0 w1
  refine (laws_FnSignSizeMore.calls k a0 a1 true w h).mono ?_
  rintro e w' ⟨rfl, hd⟩
  exact ⟨rfl, hd.below⟩

end Go.Proofs.Ytcblhkcdolaigaa.PFnSignSizeMore

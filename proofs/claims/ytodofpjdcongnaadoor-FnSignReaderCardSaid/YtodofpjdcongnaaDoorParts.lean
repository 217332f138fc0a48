/- Sections of the text that the kit's print wrote for FnSignHeaders (x1), without those that do not build (put32be, put8) and those that are not needed. -/
import Derived.Test.YtodofpjdcongnaaDoorPFnSignHeadersx0
namespace Go.Proofs.YtodofpjdcongnaaDoor.PFnSignHeaders
open Go.RowKit Go.Proofs.YtodofpjdcongnaaDoorW.PrintWords Go.Proofs.YtodofpjdcongnaaDoorW.PrintLast Go.Proofs.YtodofpjdcongnaaDoorW.PrintMore
attribute [local go_sem] max2_int min2_int max_two min_two max_three min_three max_four min_four   -- for this text's walks alone
set_option linter.unusedVariables false
set_option linter.unusedSimpArgs false

/-! ### codesign_Size: function 26 -/
def codesign_Size.f (a0 : Int) (a1 : ByteArray) : Option (Int) := some (wrap64 (20 + (wrap64 ((wrap64 (88 + (wrap64 ((a1.size : Int) + 1)))) + (wrap64 ((wrap64 (Int.tdiv (wrap64 ((wrap64 (a0 + 4096)) - 1)) 4096)) * 32))))))
set_option maxHeartbeats 8000000 in
set_option maxRecDepth 100000 in
theorem codesign_Size.calls (a0 : Int) (a1 : ByteArray) (r : Int) (w : World) (h : codesign_Size.f a0 a1 = some r) :
    Calls Tryd.prog 26 #[.int .i64 a0, .string a1] w fun e w' => e = .returned (.int .i64 r) ∧ Drawn0 w w' := by
  have H : (some (wrap64 (20 + (wrap64 ((wrap64 (88 + (wrap64 ((a1.size : Int) + 1)))) + (wrap64 ((wrap64 (Int.tdiv (wrap64 ((wrap64 (a0 + 4096)) - 1)) 4096)) * 32))))))) = some r := h
  clear h
  obtain rfl := Option.some.inj H
  go_enter Tryd.func26, Tryd.ntmps26
  go_wp2
  go_ret
  exact ⟨by first | rfl | (simp; done) | (simp [*]; done), by repeat (first | exact Drawn0.refl _ | apply Drawn0.step)⟩

/-! ### spec_Pages: function 15 -/
def spec_Pages.f (a0 : Int) : Option (Int) := some (wrap64 (Int.tdiv (wrap64 ((wrap64 (a0 + 4096)) - 1)) 4096))
set_option maxHeartbeats 8000000 in
set_option maxRecDepth 100000 in
theorem spec_Pages.calls (a0 : Int) (r : Int) (w : World) (h : spec_Pages.f a0 = some r) :
    Calls Tryd.prog 15 #[.int .i64 a0] w fun e w' => e = .returned (.int .i64 r) ∧ Drawn0 w w' := by
  have H : (some (wrap64 (Int.tdiv (wrap64 ((wrap64 (a0 + 4096)) - 1)) 4096))) = some r := h
  clear h
  obtain rfl := Option.some.inj H
  go_enter Tryd.func15, Tryd.ntmps15
  go_wp2
  go_ret
  exact ⟨by first | rfl | (simp; done) | (simp [*]; done), by repeat (first | exact Drawn0.refl _ | apply Drawn0.step)⟩

/-! ### spec_Size: function 10 -/
def spec_Size.f (a0 : Int) (a1 : ByteArray) : Option (Int) := (spec_Pages.f a0).bind fun t137 => (some (wrap64 ((wrap64 ((wrap64 (108 + (a1.size : Int))) + 1)) + (wrap64 (32 * t137)))))
set_option maxHeartbeats 8000000 in
set_option maxRecDepth 100000 in
theorem spec_Size.calls (a0 : Int) (a1 : ByteArray) (r : Int) (w : World) (h : spec_Size.f a0 a1 = some r) :
    Calls Tryd.prog 10 #[.int .i64 a0, .string a1] w fun e w' => e = .returned (.int .i64 r) ∧ Drawn0 w w' := by
  have H : ((spec_Pages.f a0).bind fun t137 => (some (wrap64 ((wrap64 ((wrap64 (108 + (a1.size : Int))) + 1)) + (wrap64 (32 * t137)))))) = some r := h
  clear h
  replace H := Option.bind_eq_some_iff.mp H
  obtain ⟨t137, A30, H⟩ := H
  replace H : (some (wrap64 ((wrap64 ((wrap64 (108 + (a1.size : Int))) + 1)) + (wrap64 (32 * t137))))) = some r := H
  have A3 := Aside0.mk A30
  clear A30
  obtain rfl := Option.some.inj H
  go_enter Tryd.func10, Tryd.ntmps10
  go_wp2_with (first | ((with_reducible refine gate_callee (f := 15) rfl ?_); refine goesL_ (some 10) rfl rfl Tryd.func15 (by kernel_rfl) rfl #[.int .i64 a0] rfl (by (try simp only [List.map_toArray, List.map_cons, List.map_nil]); first | done | rfl | (simp only [List.length_drop, List.length_take]; rfl)) ?_; (with_reducible refine (spec_Pages.calls a0 t137 _ A3.out).mono ?_); rintro e w' ⟨rfl, ⟨nd, rfl⟩⟩; refine ⟨_, rfl, ?_⟩))
  go_ret
  exact ⟨by first | rfl | (simp; done) | (simp [*]; done), by repeat (first | exact Drawn0.refl _ | apply Drawn0.step)⟩

/-! ### spec_part: function 28 -/
def spec_part.f (a0 : Int) (a1 : Int) : Option (Int) := if 0 ≤ (IntKind.u64.wrap (wrap64 (24 - (wrap64 (8 * a1))))) then (some ((shr .u32 a0 (IntKind.u64.wrap (wrap64 (24 - (wrap64 (8 * a1)))))) % 256)) else (none)
set_option maxHeartbeats 8000000 in
set_option maxRecDepth 100000 in
theorem spec_part.calls (a0 : Int) (a1 : Int) (r : Int) (w : World) (h : spec_part.f a0 a1 = some r) :
    Calls Tryd.prog 28 #[.int .u32 a0, .int .i64 a1] w fun e w' => e = .returned (.int .u8 r) ∧ Drawn0 w w' := by
  have H : (if 0 ≤ (IntKind.u64.wrap (wrap64 (24 - (wrap64 (8 * a1))))) then (some ((shr .u32 a0 (IntKind.u64.wrap (wrap64 (24 - (wrap64 (8 * a1)))))) % 256)) else (none)) = some r := h
  clear h
  obtain ⟨ji3, hji3⟩ : ∃ j_ : Int, (IntKind.u64.wrap (wrap64 (24 - (wrap64 (8 * a1))))) = j_ := ⟨_, rfl⟩
  replace H : (if 0 ≤ (ji3) then (some ((shr .u32 a0 (ji3)) % 256)) else (none)) = some r := by first | (rw [hji3] at H; exact H) | (simp only [hji3] at H ⊢; exact H)
  by_cases c4 : 0 ≤ (ji3)
  · rw [if_pos c4] at H
    have c4b0 := eq_true c4
    have c4b1 : decide (0 ≤ (ji3)) = true := decide_eq_true c4
    clear c4
    obtain ⟨ji5, hji5⟩ : ∃ j_ : Int, (shr .u32 a0 (ji3)) = j_ := ⟨_, rfl⟩
    replace H : (some ((ji5) % 256)) = some r := by first | (rw [hji5] at H; exact H) | (simp only [hji5] at H ⊢; exact H)
    have hji5_ : (a0 / 2 ^ min (ji3).toNat 32) = ji5 := hji5
    have hji5z : (ji3) ≤ 32 → (a0 / 2 ^ (ji3).toNat) = ji5 := shr_small hji5
    obtain rfl := Option.some.inj H
    go_enter Tryd.func28, Tryd.ntmps28
    go_wp2
    go_ret
    exact ⟨by first | rfl | (simp; done) | (simp only [← hji3, ← hji5] <;> (first | rfl | simp)) | (simp [*]; done), by repeat (first | exact Drawn0.refl _ | apply Drawn0.step)⟩
  · rw [if_neg c4] at H
    exact absurd H (by simp)

/-! ### spec_Words: function 19 -/
def spec_Words.f (a0 : Int) : Option (List Int) := (spec_part.f a0 0).bind fun t138 => ((spec_part.f a0 1).bind fun t139 => ((spec_part.f a0 2).bind fun t140 => ((spec_part.f a0 3).bind fun t141 => (some (([t138, t139, t140, t141] : List Int))))))
set_option maxHeartbeats 8000000 in
set_option maxRecDepth 100000 in
theorem spec_Words.calls (a0 : Int) (r : List Int) (w : World) (h : spec_Words.f a0 = some r) :
    Calls Tryd.prog 19 #[.int .u32 a0] w fun e w' => ∃ v0_ : Value, e = .returned (v0_) ∧ Kd.R (Kd.int .u8) 5 w' w.heap.size (fun _ => True) v0_ r ∧ Below w.heap.size w w' := by
  have HB := Aside0.mk (Below.refl w.heap.size w)
  have H : ((spec_part.f a0 0).bind fun t138 => ((spec_part.f a0 1).bind fun t139 => ((spec_part.f a0 2).bind fun t140 => ((spec_part.f a0 3).bind fun t141 => (some (([t138, t139, t140, t141] : List Int))))))) = some r := h
  clear h
  replace H := Option.bind_eq_some_iff.mp H
  obtain ⟨t138, A20, H⟩ := H
  replace H : ((spec_part.f a0 1).bind fun t139 => ((spec_part.f a0 2).bind fun t140 => ((spec_part.f a0 3).bind fun t141 => (some (([t138, t139, t140, t141] : List Int)))))) = some r := H
  have A2 := Aside0.mk A20
  clear A20
  replace H := Option.bind_eq_some_iff.mp H
  obtain ⟨t139, A30, H⟩ := H
  replace H : ((spec_part.f a0 2).bind fun t140 => ((spec_part.f a0 3).bind fun t141 => (some (([t138, t139, t140, t141] : List Int))))) = some r := H
  have A3 := Aside0.mk A30
  clear A30
  replace H := Option.bind_eq_some_iff.mp H
  obtain ⟨t140, A40, H⟩ := H
  replace H : ((spec_part.f a0 3).bind fun t141 => (some (([t138, t139, t140, t141] : List Int)))) = some r := H
  have A4 := Aside0.mk A40
  clear A40
  replace H := Option.bind_eq_some_iff.mp H
  obtain ⟨t141, A50, H⟩ := H
  replace H : (some (([t138, t139, t140, t141] : List Int))) = some r := H
  have A5 := Aside0.mk A50
  clear A50
  obtain ⟨y142, hy142⟩ : ∃ y_ : List Int, y_ = (([t138, t139, t140, t141] : List Int)) := ⟨_, rfl⟩
  replace H : (some y142) = some r := by first | (rw [hy142]; with_reducible exact H) | (have H2_ := (Option.bind_some _ _).symm.trans H; rw [hy142]; with_reducible exact H2_) | (have H2_ := (Option.bind_some _ _).symm.trans H; with_reducible exact H2_) | with_reducible exact H | (rw [hy142]; exact H) | exact H
  have Ny142 := Aside0.mk hy142
  clear hy142
  obtain rfl := Option.some.inj H
  go_enter Tryd.func19, Tryd.ntmps19
  go_wp2_with (first | ((with_reducible refine gate_callee (f := 28) rfl ?_); refine goesL_ (some 4) rfl rfl Tryd.func28 (by kernel_rfl) rfl #[.int .u32 a0, .int .i64 0] rfl (by (try simp only [List.map_toArray, List.map_cons, List.map_nil]); first | done | rfl | (simp only [List.length_drop, List.length_take]; rfl)) ?_; (with_reducible refine (spec_part.calls a0 0 t138 _ A2.out).mono ?_); rintro e w' ⟨rfl, ⟨nd, rfl⟩⟩; refine ⟨_, rfl, ?_⟩) | ((with_reducible refine gate_callee (f := 28) rfl ?_); refine goesL_ (some 6) rfl rfl Tryd.func28 (by kernel_rfl) rfl #[.int .u32 a0, .int .i64 1] rfl (by (try simp only [List.map_toArray, List.map_cons, List.map_nil]); first | done | rfl | (simp only [List.length_drop, List.length_take]; rfl)) ?_; (with_reducible refine (spec_part.calls a0 1 t139 _ A3.out).mono ?_); rintro e w' ⟨rfl, ⟨nd, rfl⟩⟩; refine ⟨_, rfl, ?_⟩) | ((with_reducible refine gate_callee (f := 28) rfl ?_); refine goesL_ (some 8) rfl rfl Tryd.func28 (by kernel_rfl) rfl #[.int .u32 a0, .int .i64 2] rfl (by (try simp only [List.map_toArray, List.map_cons, List.map_nil]); first | done | rfl | (simp only [List.length_drop, List.length_take]; rfl)) ?_; (with_reducible refine (spec_part.calls a0 2 t140 _ A4.out).mono ?_); rintro e w' ⟨rfl, ⟨nd, rfl⟩⟩; refine ⟨_, rfl, ?_⟩) | ((with_reducible refine gate_callee (f := 28) rfl ?_); refine goesL_ (some 10) rfl rfl Tryd.func28 (by kernel_rfl) rfl #[.int .u32 a0, .int .i64 3] rfl (by (try simp only [List.map_toArray, List.map_cons, List.map_nil]); first | done | rfl | (simp only [List.length_drop, List.length_take]; rfl)) ?_; (with_reducible refine (spec_part.calls a0 3 t141 _ A5.out).mono ?_); rintro e w' ⟨rfl, ⟨nd, rfl⟩⟩; refine ⟨_, rfl, ?_⟩) | ((with_reducible refine gate_dst (N := 11) rfl ?_); refine Kd.R_lit (Kd.int .u8) _ 5 ?hg (N := 11) ?hd (xs := ([t138, t139, t140, t141] : List Int)) (inner := [.int .u8 t138, .int .u8 t139, .int .u8 t140, .int .u8 t141]) (ok := fun _ => True) (okp := fun _ => True) ?hr ?hp (fun _ hk => hk) trivial (Below.refl _ _) (Nat.le_refl _) (by simp) ?_; (case hd => rfl); (case hg => rfl); (case hr => first | (go_simp; done) | (go_simp; rfl)); (case hp => exact (Reps.one (show Kd.M (Kd.int .u8) _ _ _ t138 [.int .u8 t138] from rfl) (Reps.one (show Kd.M (Kd.int .u8) _ _ _ t139 [.int .u8 t139] from rfl) (Reps.one (show Kd.M (Kd.int .u8) _ _ _ t140 [.int .u8 t140] from rfl) (Reps.one (show Kd.M (Kd.int .u8) _ _ _ t141 [.int .u8 t141] from rfl) (Reps.none _ _)))))); intro v143 w6 ho7 hb hg_ hnew_; clear hg_ hnew_; (first | rw [← Ny142.out] at ho7 | (simp only [Int.reduceToNat] at ho7; rw [← Ny142.out] at ho7)); have n0_ := Aside0.mk (Kd.R_lower ho7 (below_size (by repeat (first | (with_reducible first | exact HB.out | apply below_alloc | apply pw_below_drewN | apply below_drew1) | exact HB.out)))); have n1_ := Aside0.mk (below_step (by repeat (first | (with_reducible first | exact HB.out | apply below_alloc | apply pw_below_drewN | apply below_drew1) | exact HB.out)) hb); clear HB; have HO144 := n0_; have HB := n1_; clear n0_ n1_; clear hb ho7))
  go_ret
  exact ⟨_, by first | rfl | (simp [errW_none, errW_some] <;> rfl) | (simp [*, errW_none, errW_some] <;> rfl), by (with_reducible repeat (first | apply Kd.R_alloc | apply Kd.R_drewN | apply Kd.R_drew)); exact HO144.out, by repeat (first | (with_reducible first | exact HB.out | apply below_alloc | apply pw_below_drewN | apply below_drew1) | exact HB.out)⟩

/-! ### spec_Wide: function 20 -/
def spec_Wide.f (a0 : Int) : Option (List Int) := (spec_Words.f ((a0 / 4294967296) % 4294967296)).bind fun t145 => ((spec_Words.f ((a0) % 4294967296)).bind fun t148 => (if t145.length + t148.length < 140737488355328 then (some (t145 ++ t148)) else (none)))
set_option maxHeartbeats 8000000 in
set_option maxRecDepth 100000 in
theorem spec_Wide.calls (a0 : Int) (r : List Int) (w : World) (h : spec_Wide.f a0 = some r) :
    Calls Tryd.prog 20 #[.int .u64 a0] w fun e w' => ∃ v0_ : Value, e = .returned (v0_) ∧ Kd.R (Kd.int .u8) 5 w' w.heap.size (fun _ => True) v0_ r ∧ Below w.heap.size w w' := by
  have HB := Aside0.mk (Below.refl w.heap.size w)
  have H : ((spec_Words.f ((a0 / 4294967296) % 4294967296)).bind fun t145 => ((spec_Words.f ((a0) % 4294967296)).bind fun t148 => (if t145.length + t148.length < 140737488355328 then (some (t145 ++ t148)) else (none)))) = some r := h
  clear h
  replace H := Option.bind_eq_some_iff.mp H
  obtain ⟨t145, A20, H⟩ := H
  replace H : ((spec_Words.f ((a0) % 4294967296)).bind fun t148 => (if t145.length + t148.length < 140737488355328 then (some (t145 ++ t148)) else (none))) = some r := H
  have A2 := Aside0.mk A20
  clear A20
  replace H := Option.bind_eq_some_iff.mp H
  obtain ⟨t148, A30, H⟩ := H
  replace H : (if t145.length + t148.length < 140737488355328 then (some (t145 ++ t148)) else (none)) = some r := H
  have A3 := Aside0.mk A30
  clear A30
  by_cases c4 : t145.length + t148.length < 140737488355328
  · rw [if_pos c4] at H
    have LMc4 := Aside0.mk c4
    clear c4
    obtain ⟨y151, hy151⟩ : ∃ y_ : List Int, y_ = (t145 ++ t148) := ⟨_, rfl⟩
    replace H : (some y151) = some r := by first | (rw [hy151]; with_reducible exact H) | (have H2_ := (Option.bind_some _ _).symm.trans H; rw [hy151]; with_reducible exact H2_) | (have H2_ := (Option.bind_some _ _).symm.trans H; with_reducible exact H2_) | with_reducible exact H | (rw [hy151]; exact H) | exact H
    have Ny151 := Aside0.mk hy151
    clear hy151
    obtain rfl := Option.some.inj H
    go_enter Tryd.func20, Tryd.ntmps20
    go_wp2_with (first | ((with_reducible refine gate_callee (f := 19) rfl ?_); refine goesL_ (some 6) rfl rfl Tryd.func19 (by kernel_rfl) rfl #[.int .u32 ((a0 / 4294967296) % 4294967296)] rfl (by (try simp only [List.map_toArray, List.map_cons, List.map_nil]); first | done | rfl | (simp only [List.length_drop, List.length_take]; rfl)) ?_; (with_reducible refine (spec_Words.calls ((a0 / 4294967296) % 4294967296) t145 _ A2.out).mono ?_); rintro e w5 ⟨v146, rfl, ho0, hb⟩; refine ⟨_, rfl, ?_⟩; have n0_ := Aside0.mk (Kd.R_lower ho0 (below_size (by repeat (first | (with_reducible first | exact HB.out | apply below_alloc | apply pw_below_drewN | apply below_drew1) | exact HB.out)))); have n1_ := Aside0.mk (below_step (by repeat (first | (with_reducible first | exact HB.out | apply below_alloc | apply pw_below_drewN | apply below_drew1) | exact HB.out)) hb); clear HB; have HO147 := n0_; have HB := n1_; clear n0_ n1_; (try clear hb); (try clear hb2); (try clear hk); (try clear hi); (try clear ho0)) | ((with_reducible refine gate_callee (f := 19) rfl ?_); refine goesL_ (some 9) rfl rfl Tryd.func19 (by kernel_rfl) rfl #[.int .u32 ((a0) % 4294967296)] rfl (by (try simp only [List.map_toArray, List.map_cons, List.map_nil]); first | done | rfl | (simp only [List.length_drop, List.length_take]; rfl)) ?_; (with_reducible refine (spec_Words.calls ((a0) % 4294967296) t148 _ A3.out).mono ?_); rintro e w6 ⟨v149, rfl, ho0, hb⟩; refine ⟨_, rfl, ?_⟩; have n0_ := Aside0.mk (Kd.R_elder' (by (with_reducible repeat (first | apply Kd.R_alloc | apply Kd.R_drewN | apply Kd.R_drew)); exact HO147.out) (Kd.R_base ho0) hb); have n1_ := Aside0.mk (Kd.R_lower (Kd.R_new' ho0 (Kd.R_lt (by (with_reducible repeat (first | apply Kd.R_alloc | apply Kd.R_drewN | apply Kd.R_drew)); exact HO147.out))) (below_size (by repeat (first | (with_reducible first | exact HB.out | apply below_alloc | apply pw_below_drewN | apply below_drew1) | exact HB.out)))); have n2_ := Aside0.mk (below_step (by repeat (first | (with_reducible first | exact HB.out | apply below_alloc | apply pw_below_drewN | apply below_drew1) | exact HB.out)) hb); clear HO147; clear HB; have HO147 := n0_; have HO150 := n1_; have HB := n2_; clear n0_ n1_ n2_; (try clear hb); (try clear hb2); (try clear hk); (try clear hi); (try clear ho0); obtain ⟨Ao8, co8, eo8⟩ := Kd.R_slice HO150.out; subst eo8) | ((with_reducible refine gate_builtin (b := .append) (xs := #[.tmp 6, .tmp 9]) rfl ?_); at_builtin; refine Kd.R_append_rows (Kd.int .u8) (w0 := w) w.heap.size rfl (.tmp 6) (.tmp 9) 22 5 (.int .u8 0) 1 rfl Tryd.underlying22 info5 rfl (by decide) (by omega) v146 t145 t148 _ _ _ (fun k_ => some k_ ≠ (.slice Ao8 t148.length co8 : Value).ownBlock) (fun _ => False) rfl rfl ?aO ?aR (fun _ _ h => h) (fun _ h => h.elim) ?aF ?aB ?aS ?aL ?_; (case aR => repeat (first | exact (Kd.R_reads' HO150.out).2.2 | (with_reducible refine Kd.C_alloc ?_ _) | (with_reducible refine Kd.C_drewN ?_ _) | (with_reducible refine Kd.C_drew ?_))); (case aB => exact (by repeat (first | (with_reducible first | exact HB.out | apply below_alloc | apply pw_below_drewN | apply below_drew1) | exact HB.out))); (case aF => exact (fun k_ hk => Kd.fresh' (Kd.R_lt (by (with_reducible repeat (first | apply Kd.R_alloc | apply Kd.R_drewN | apply Kd.R_drew)); exact HO150.out)) k_ hk)); (case aO => exact (by (with_reducible repeat (first | apply Kd.R_alloc | apply Kd.R_drewN | apply Kd.R_drew)); exact Kd.R_mono HO147.out (fun _ hk => hk.2))); (case aS => exact (below_size (by repeat (first | (with_reducible first | exact HB.out | apply below_alloc | apply pw_below_drewN | apply below_drew1) | exact HB.out)))); (case aL => have := LMc4.out; omega); intro v152 w7 ho hb hg hat; rw [← Ny151.out] at ho; have n0_ := Aside0.mk (Kd.R_after (ok := (fun _ => True)) (by (with_reducible repeat (first | apply Kd.R_alloc | apply Kd.R_drewN | apply Kd.R_drew)); exact HO150.out) hg hat); have n1_ := Aside0.mk (hb); have n2_ := Aside0.mk (ho); clear HO150; clear HB; clear HO147; have HO150 := n0_; have HB := n1_; have HO153 := n2_; clear n0_ n1_ n2_; clear ho hb hg hat))
    go_ret
    exact ⟨_, by first | rfl | (simp [errW_none, errW_some] <;> rfl) | (simp [*, errW_none, errW_some] <;> rfl), by (with_reducible repeat (first | apply Kd.R_alloc | apply Kd.R_drewN | apply Kd.R_drew)); exact Kd.R_mono HO153.out (fun _ hk => trivial), by repeat (first | (with_reducible first | exact HB.out | apply below_alloc | apply pw_below_drewN | apply below_drew1) | exact HB.out)⟩
  · rw [if_neg c4] at H
    exact absurd H (by simp)

-- NOT PRINTED: function 9 (spec_Fronts)

/-! ### spec_SameBytes: function 11 -/
def spec_SameBytes.f (l0 : List Int) (l1 : List Int) : Option (Bool) := some ((strOfNums l0).toList == (strOfNums l1).toList)
set_option maxHeartbeats 8000000 in
set_option maxRecDepth 100000 in
theorem spec_SameBytes.calls (A0 : Option Addr) (c0 : Nat) (l0 : List Int) (A1 : Option Addr) (c1 : Nat) (l1 : List Int) (r : Bool) (w : World) (hr0 : Kd.C (Kd.int .u8) w A0 l0.length l0) (hc0 : l0.length ≤ c0) (hr1 : Kd.C (Kd.int .u8) w A1 l1.length l1) (hc1 : l1.length ≤ c1) (h : spec_SameBytes.f l0 l1 = some r) :
    Calls Tryd.prog 11 #[.slice A0 l0.length c0, .slice A1 l1.length c1] w fun e w' => e = .returned (.bool r) ∧ Drawn0 w w' := by
  have HR0 := Aside0.mk hr0
  have HC0 := Aside0.mk hc0
  clear hr0 hc0
  have HR1 := Aside0.mk hr1
  have HC1 := Aside0.mk hc1
  clear hr1 hc1
  have H : (some ((strOfNums l0).toList == (strOfNums l1).toList)) = some r := h
  clear h
  obtain rfl := Option.some.inj H
  have hcv3 := Kd.C_string (P := Tryd.prog) (A := A0) (c := c0) Tryd.underlying22 Tryd.underlying5 Tryd.underlying9 HR0.out
  have hcv4 := Kd.C_string (P := Tryd.prog) (A := A1) (c := c1) Tryd.underlying22 Tryd.underlying5 Tryd.underlying9 HR1.out
  go_enter Tryd.func11, Tryd.ntmps11
  go_wp2
  go_ret
  exact ⟨by first | rfl | (simp; done) | (simp [*]; done), by repeat (first | exact Drawn0.refl _ | apply Drawn0.step)⟩

end Go.Proofs.YtodofpjdcongnaaDoor.PFnSignHeaders

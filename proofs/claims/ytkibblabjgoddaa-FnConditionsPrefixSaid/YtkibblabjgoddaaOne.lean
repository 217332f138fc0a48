/- The walk of conditionsActive at one condition that is not known. -/
import Derived.Test.YtkibblabjgoddaaCondPlain
import Derived.BigQuiet
namespace Go.Proofs.Ytkibblabjgoddaa.Tab
open Go.RowKit Go.Proofs.YtkibblabjgoddaaW.PrintWords Go.Maps Go.WideMaps Go.Proofs.Ytkibblabjgoddaa.PFnConditions

theorem R54_nil {v : Value} {ps : List MemPlace} (h : R54 v = some (.nil, ps)) : v = .nilIface := by
  unfold R54 at h
  split at h
  · rfl
  · split at h
    · simp [dat] at h
    · cases h
  · cases h

theorem MapE.look_none {w : World} {b n : Nat} {g : ByteArray → Option (Bool × Nat)} (h : MapE w b n g) (s : ByteArray) (hs : s.size ≤ maxLen) (hg : g s = none) :
    (Instr.lookup 48 (.map (some b)) (.string s) false).run Try.prog w = .ok .nilIface w := by
  obtain ⟨D, h, hf⟩ := h
  obtain ⟨v, ps, hrun, hv⟩ := h.lookup law9 Try.underlying48 (show (zeroValue 54).run Try.prog w = .ok .nilIface w from by kernel_rfl) (show R54 .nilIface = some (.nil, []) from rfl) (keyOf_string_mk Try.underlying9 (s := s) hs)
  have e : D.atKey (ky s) .nil = ((g s).map dat).getD .nil := (hf s).1 .nil
  rw [hg] at e
  rw [show D.atKey (.string s.data.toList) .nil = .nil from e] at hv
  rw [R54_nil hv] at hrun
  exact hrun

set_option maxHeartbeats 8000000 in
set_option maxRecDepth 100000 in
theorem errors_new (s : ByteArray) (w : World) : Calls Try.prog 16 #[.string s] w fun e w' => e = .returned (.iface 72 (.pointer (some ⟨w.heap.size, 0, none⟩))) ∧ Below w.heap.size w w' := by
  go_enter Try.func16, Try.ntmps16
  go_wp2_with fail
  go_ret
  exact ⟨rfl, (Below.refl _ w).alloc (Nat.le_refl _) _⟩

set_option maxHeartbeats 8000000 in
set_option maxRecDepth 100000 in
theorem active_one (gE bE n : Nat) (g : ByteArray → Option (Bool × Nat)) (q : Value) (ga c : Nat) (s : ByteArray) (w : World) (hgE : w.cell? ⟨gE, 0, none⟩ = some (.map (some bE))) (hE : MapE w bE n g) (hg : g s = none) (hs : s.size ≤ 281474976710656)
    (hno : ∀ j : Nat, j < s.size → bt s (j : Int) ≠ 58) (h0 : w.cell? ⟨ga, 0, none⟩ = some (.bool true)) (h1 : w.cell? ⟨ga, 1, none⟩ = some (.string s)) :
    Calls Try.prog 14 #[.pointer (some ⟨gE, 0, none⟩), q, .slice (some ⟨ga, 0, none⟩) 1 c] w fun e w' => (∃ a : Nat, e = .returned (.tuple #[.bool false, .iface 72 (.pointer (some ⟨a, 0, none⟩))])) ∧ Below w.heap.size w w' := by
  have hu57 := Try.underlying57
  have HC := Aside0.mk (cut_none s hs hno)
  have hgl : gE < w.heap.size := World.block_lt_of_cell? w _ hgE
  have hl : ∀ m : Nat, (Instr.lookup 48 (.map (some bE)) (.string s) false).run Try.prog ((w.alloc (.cells #[.bool true, .string s] 57)).drewN m) = .ok .nilIface ((w.alloc (.cells #[.bool true, .string s] 57)).drewN m) := fun m =>
    MapE.look_none (w := (w.alloc (.cells #[.bool true, .string s] 57)).drewN m) (show MapE (w.alloc (.cells #[.bool true, .string s] 57)) bE n g from hE.kept (World.grownBy_alloc _ _ none) (by simp)) s (by unfold maxLen; omega) hg
  clear hE hg hno
  go_enter Try.func14, Try.ntmps14
  go_wp2_with fail
  refine wp_loop_rounds 1 ?_
  rw [rounds_succ]
  go_wp2_with (go_at_call 15; (with_reducible refine (scriptparse_zzCut.calls _ s ⟨#[58]⟩ s ⟨#[]⟩ false _ HC.out).mono ?_); rintro e w1 ⟨rfl, nd, rfl⟩)
  go_region
  go_wp2_with (go_at_call 16; (with_reducible refine (errors_new _ _).mono ?_); rintro e w2 ⟨rfl, b2⟩)
  go_ret2
  have hb1 : Below w.heap.size w (w.alloc (.cells #[.bool true, .string s] 57)) := (Below.refl _ w).alloc (Nat.le_refl _) _
  exact ⟨⟨_, rfl⟩, below_then (pw_below_drewN hb1 _) hb1.size b2⟩

end Go.Proofs.Ytkibblabjgoddaa.Tab

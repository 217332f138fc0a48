/- The walk of conditionsActive at one condition with a suffix. -/
import Derived.Test.YtkibblabjgoddaaPrePlain
import Derived.Test.YtkibblabjgoddaaZzAll
import Derived.BigQuiet
namespace Go.Proofs.Ytkibblabjgoddaa.Tab
open Go.RowKit Go.Proofs.YtkibblabjgoddaaW.PrintWords Go.Maps Go.WideMaps Go.Proofs.Ytkibblabjgoddaa.PFnConditions

set_option maxHeartbeats 8000000 in
set_option maxRecDepth 100000 in
theorem active_pre (gE bE n : Nat) (g : ByteArray → Option (Bool × Nat)) (q : Value) (ga c : Nat) (t s full : ByteArray) (want : Bool) (b' n' : Nat) (f : ByteArray → Option Bool) (w : World) (hgE : w.cell? ⟨gE, 0, none⟩ = some (.map (some bE))) (hE : MapE w bE n g)
    (hg : g t = some (true, b')) (hM : MapB w b' n' f) (hts : t.size ≤ 281474976710656) (hss : s.size ≤ 281474976710656) (hcut : scriptparse_zzCut.f (t.size + 1) full ⟨#[58]⟩ = some (t, s, true)) (h0 : w.cell? ⟨ga, 0, none⟩ = some (.bool want)) (h1 : w.cell? ⟨ga, 1, none⟩ = some (.string full)) :
    Calls Try.prog 14 #[.pointer (some ⟨gE, 0, none⟩), q, .slice (some ⟨ga, 0, none⟩) 1 c] w fun e w' => e = .returned (.tuple #[.bool ((f s).getD false == want), .nilIface]) ∧ Below w.heap.size w w' := by
  have hu57 := Try.underlying57
  have hmu := method_usage
  have hme := method_eval
  have HC := Aside0.mk hcut
  have hgl : gE < w.heap.size := World.block_lt_of_cell? w _ hgE
  have hl : ∀ m : Nat, (Instr.lookup 48 (.map (some bE)) (.string t) false).run Try.prog ((w.alloc (.cells #[.bool want, .string full] 57)).drewN m) = .ok (.iface 52 (.agg #[.bool true, .map (some b')])) ((w.alloc (.cells #[.bool want, .string full] 57)).drewN m) := fun m =>
    MapE.look_some (w := (w.alloc (.cells #[.bool want, .string full] 57)).drewN m) (show MapE (w.alloc (.cells #[.bool want, .string full] 57)) bE n g from hE.kept (World.grownBy_alloc _ _ none) (by simp)) t (by unfold maxLen; omega) (true, b') hg
  have HM := Aside0.mk hM
  have HB := Aside0.mk (Below.refl w.heap.size w)
  clear hcut hg hE hM
  go_enter Try.func14, Try.ntmps14
  go_wp2_with fail
  refine wp_loop_rounds 2 ?_
  rw [rounds_succ]
  go_wp2_with (go_at_call 15; (with_reducible refine (scriptparse_zzCut.calls _ full ⟨#[58]⟩ t s true _ HC.out).mono ?_); rintro e w1 ⟨rfl, nd, rfl⟩)
  (with_reducible refine (usage_is true b' _).mono ?_)
  rintro e w2 ⟨⟨a2, rfl, hu2⟩, b2⟩
  have hba := pw_below_drewN (HB.out.alloc HB.out.size (.cells #[.bool want, .string full] 57)) nd
  have hb2 := below_then hba hba.size b2
  have hw0 : (w.alloc (.cells #[.bool want, .string full] 57)).cell? ⟨w.heap.size, 0, none⟩ = some (.bool want) := by rw [World.cell?_alloc_at _ _ _ _ rfl]; rfl
  have hw2 : w2.cell? ⟨w.heap.size, 0, none⟩ = some (.bool want) := (b2.cell (World.block_lt_of_cell? (w.alloc (.cells #[.bool want, .string full] 57)) _ hw0)).trans hw0
  have hM2 := mapB_below HM.out hb2
  have HB2 := Aside0.mk hb2
  clear hba hw0 b2 hb2
  go_wp2_with fail
  (with_reducible refine (eval_is true b' n' f q s _ hM2 (by unfold maxLen; omega)).mono ?_)
  rintro e w3 ⟨rfl, b3⟩
  have hw3 : w3.cell? ⟨w.heap.size, 0, none⟩ = some (.bool want) := (b3.cell (World.block_lt_of_cell? w2 _ hw2)).trans hw2
  have HB3 := Aside0.mk (below_then HB2.out HB2.out.size b3)
  clear b3 hw2 hM2 hu2 hl
  obtain ⟨mt, hmt⟩ : ∃ m, m = (f s).getD false := ⟨_, rfl⟩
  rw [← hmt]
  have HMT := Aside0.mk hmt
  clear hmt
  cases mt with
  | true =>
    cases want with
    | true =>
      go_wp2_with fail
      rw [rounds_succ]
      go_wp2_with fail
      go_ret2
      exact ⟨by rw [← HMT.out]; rfl, HB3.out⟩
    | false =>
      go_wp2_with fail
      go_ret2
      exact ⟨by rw [← HMT.out]; rfl, HB3.out⟩
  | false =>
    cases want with
    | false =>
      go_wp2_with fail
      rw [rounds_succ]
      go_wp2_with fail
      go_ret2
      exact ⟨by rw [← HMT.out]; rfl, HB3.out⟩
    | true =>
      go_wp2_with fail
      go_ret2
      exact ⟨by rw [← HMT.out]; rfl, HB3.out⟩

end Go.Proofs.Ytkibblabjgoddaa.Tab

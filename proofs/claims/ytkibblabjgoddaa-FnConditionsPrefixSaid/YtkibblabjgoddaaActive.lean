/- The walk of conditionsActive where all conditions are known, none with a suffix. -/
import Derived.Test.YtkibblabjgoddaaCondMeth
import Derived.BigQuiet
namespace Go.Proofs.Ytkibblabjgoddaa.Tab
open Go.RowKit Go.Proofs.YtkibblabjgoddaaW.PrintWords Go.Maps Go.WideMaps Go.Proofs.Ytkibblabjgoddaa.PFnConditions

/-- the condition at tag t is known, and met as met says -/
def Known (w : World) (g : ByteArray → Option (Bool × Nat)) (met : ByteArray → Bool) (t : ByteArray) : Prop :=
  t.size ≤ 281474976710656 ∧ (∀ j : Nat, j < t.size → bt t (j : Int) ≠ 58) ∧ ∃ b', g t = some (false, b') ∧ MapB w b' 1 (fun y => if y = ByteArray.empty then some (met t) else none)

theorem method_usage (v : Value) (w : World) : (method 193 52 v "Usage").run Try.prog w = .ok (34, v) w := by kernel_rfl
theorem method_eval (v : Value) (w : World) : (method 193 52 v "Eval").run Try.prog w = .ok (33, v) w := by kernel_rfl

theorem mapE_below {w w' : World} {b n : Nat} {g : ByteArray → Option (Bool × Nat)} (h : MapE w b n g) (hb : Below w.heap.size w w') : MapE w' b n g :=
  h.kept (grown_of_below hb none) (by simp)
theorem mapB_below {w w' : World} {b n : Nat} {f : ByteArray → Option Bool} (h : MapB w b n f) (hb : Below w.heap.size w w') : MapB w' b n f :=
  h.kept (grown_of_below hb none) (by simp)

set_option maxHeartbeats 8000000 in
set_option maxRecDepth 100000 in
theorem active_all (gE bE n : Nat) (g : ByteArray → Option (Bool × Nat)) (met : ByteArray → Bool) (q : Value) (ga c : Nat) (ts : List (Bool × ByteArray)) (w : World) (hgE : w.cell? ⟨gE, 0, none⟩ = some (.map (some bE))) (hE : MapE w bE n g)
    (hk : ∀ p ∈ ts, Known w g met p.2) (hl : ts.length ≤ 281474976710656)
    (hc : ∀ i, (h : i < ts.length) → w.cell? ⟨ga, i * 2, none⟩ = some (.bool ts[i].1) ∧ w.cell? ⟨ga, i * 2 + 1, none⟩ = some (.string ts[i].2)) :
    Calls Try.prog 14 #[.pointer (some ⟨gE, 0, none⟩), q, .slice (some ⟨ga, 0, none⟩) ts.length c] w fun e w' => e = .returned (.tuple #[.bool (ts.all fun p => met p.2 == p.1), .nilIface]) ∧ Below w.heap.size w w' := by
  have hu57 := Try.underlying57
  have hmu := method_usage
  have hme := method_eval
  have HG := Aside0.mk hgE
  have HE := Aside0.mk hE
  have HK := Aside0.mk hk
  have HC := Aside0.mk hc
  clear hgE hE hk hc
  go_enter Try.func14, Try.ntmps14
  go_wp2_with fail
  go_loopw [18] (fun v18 wr => ∃ k : Nat, v18 = .int .i64 k ∧ k ≤ ts.length ∧ (∀ i, (h : i < ts.length) → i < k → (met ts[i].2 == ts[i].1) = true) ∧ Below w.heap.size w wr) (fun v18 _ => ts.length - (intOf v18).toNat)
  case atStart => exact ⟨0, rfl, by omega, fun i _ h => by omega, Below.refl _ _⟩
  case round =>
    obtain ⟨k, rfl, hk, hd, hB⟩ := hrel
    have HD := Aside0.mk hd
    have HB := Aside0.mk hB
    clear hd hB
    by_cases hk0 : k < ts.length
    · have d0 : decide ((k : Int) < (ts.length : Int)) = true := decide_eq_true (by omega)
      obtain ⟨x0, x1⟩ := HC.out k hk0
      obtain ⟨z0, z1, b', z2, z3⟩ := HK.out _ (List.getElem_mem hk0)
      obtain ⟨p, hp⟩ : ∃ p, p = ts[k] := ⟨_, rfl⟩
      have HP := Aside0.mk hp
      rw [← hp] at x0 x1 z0 z1 z2 z3
      clear hp
      obtain ⟨want, t⟩ := p
      simp only at x0 x1 z0 z1 z2 z3
      have y0 := (HB.out.cell (World.block_lt_of_cell? w _ x0)).trans x0
      have y1 := (HB.out.cell (World.block_lt_of_cell? w _ x1)).trans x1
      have yG := (HB.out.cell (World.block_lt_of_cell? w _ HG.out)).trans HG.out
      have hgl : gE < wr.heap.size := World.block_lt_of_cell? wr _ yG
      have HZ := Aside0.mk (cut_none t z0 z1)
      have hl : ∀ m : Nat, (Instr.lookup 48 (.map (some bE)) (.string t) false).run Try.prog ((wr.alloc (.cells #[.bool want, .string t] 57)).drewN m) = .ok (.iface 52 (.agg #[.bool false, .map (some b')])) ((wr.alloc (.cells #[.bool want, .string t] 57)).drewN m) := fun m =>
        MapE.look_some (w := (wr.alloc (.cells #[.bool want, .string t] 57)).drewN m) (show MapE (wr.alloc (.cells #[.bool want, .string t] 57)) bE n g from (mapE_below HE.out HB.out).kept (World.grownBy_alloc _ _ none) (by simp)) t (by unfold maxLen; omega) (false, b') z2
      clear x0 x1 z1
      go_wp2_with (go_at_call 15; (with_reducible refine (scriptparse_zzCut.calls _ t ⟨#[58]⟩ t ⟨#[]⟩ false _ HZ.out).mono ?_); rintro e w1 ⟨rfl, nd, rfl⟩)
      go_region
      go_wp2_with fail
      (with_reducible refine (usage_is false b' _).mono ?_)
      rintro e w2 ⟨⟨a2, rfl, hu2⟩, b2⟩
      have hba := pw_below_drewN (HB.out.alloc HB.out.size (.cells #[.bool want, .string t] 57)) (nd + 1)
      have hb2 := below_then hba hba.size b2
      have hw0 : (wr.alloc (.cells #[.bool want, .string t] 57)).cell? ⟨wr.heap.size, 0, none⟩ = some (.bool want) := by rw [World.cell?_alloc_at _ _ _ _ rfl]; rfl
      have hw2 : w2.cell? ⟨wr.heap.size, 0, none⟩ = some (.bool want) := (b2.cell (World.block_lt_of_cell? (wr.alloc (.cells #[.bool want, .string t] 57)) _ hw0)).trans hw0
      have hM2 := mapB_below z3 hb2
      have HB2 := Aside0.mk hb2
      clear hba hw0 b2 hb2
      go_wp2_with fail
      (with_reducible refine (eval_is false b' 1 _ q ⟨#[]⟩ _ hM2 (by decide)).mono ?_)
      rintro e w3 ⟨rfl, b3⟩
      have hw3 : w3.cell? ⟨wr.heap.size, 0, none⟩ = some (.bool want) := (b3.cell (World.block_lt_of_cell? w2 _ hw2)).trans hw2
      have HB3 := Aside0.mk (below_then HB2.out HB2.out.size b3)
      rw [show ((if (⟨#[]⟩ : ByteArray) = ByteArray.empty then some (met t) else none).getD false) = met t from rfl]
      clear b3 hw2 hM2 hu2
      obtain ⟨mt, hmt⟩ : ∃ m, m = met t := ⟨_, rfl⟩
      rw [← hmt]
      have HMT := Aside0.mk hmt
      clear hmt
      cases mt with
      | true =>
       cases want with
       | true =>
        have hnext : ∀ i, (h : i < ts.length) → i < k + 1 → (met ts[i].2 == ts[i].1) = true := fun i h hi => by
          by_cases ei : i = k
          · subst ei
            rw [← HP.out, ← HMT.out]; rfl
          · exact HD.out i h (by omega)
        have HN := Aside0.mk hnext
        clear hnext
        go_wp2_with fail
        go_roundw
        case rel => exact ⟨k + 1, by go_num, by omega, HN.out, HB3.out⟩
        case measure => simp [intOf]; omega
       | false =>
        have HA : Aside0 ((ts.all fun p => met p.2 == p.1) = false) := Aside0.mk (by
          rw [List.all_eq_false]
          exact ⟨ts[k], List.getElem_mem hk0, by rw [← HP.out, ← HMT.out]; exact Bool.false_ne_true⟩)
        go_wp2_with fail
        go_ret2
        exact ⟨by rw [HA.out]; rfl, HB3.out⟩
      | false =>
       cases want with
       | false =>
        have hnext : ∀ i, (h : i < ts.length) → i < k + 1 → (met ts[i].2 == ts[i].1) = true := fun i h hi => by
          by_cases ei : i = k
          · subst ei
            rw [← HP.out, ← HMT.out]; rfl
          · exact HD.out i h (by omega)
        have HN := Aside0.mk hnext
        clear hnext
        go_wp2_with fail
        go_roundw
        case rel => exact ⟨k + 1, by go_num, by omega, HN.out, HB3.out⟩
        case measure => simp [intOf]; omega
       | true =>
        have HA : Aside0 ((ts.all fun p => met p.2 == p.1) = false) := Aside0.mk (by
          rw [List.all_eq_false]
          exact ⟨ts[k], List.getElem_mem hk0, by rw [← HP.out, ← HMT.out]; exact Bool.false_ne_true⟩)
        go_wp2_with fail
        go_ret2
        exact ⟨by rw [HA.out]; rfl, HB3.out⟩
    · obtain rfl : k = ts.length := by omega
      have d0 : decide ((ts.length : Int) < (ts.length : Int)) = false := decide_eq_false (by omega)
      have HA : Aside0 ((ts.all fun p => met p.2 == p.1) = true) := Aside0.mk (by
        rw [List.all_eq_true]
        intro p hp
        obtain ⟨i, hi, rfl⟩ := List.getElem_of_mem hp
        exact HD.out i hi hi)
      go_wp2_with fail
      go_ret2
      exact ⟨by rw [HA.out]; rfl, HB.out⟩

end Go.Proofs.Ytkibblabjgoddaa.Tab

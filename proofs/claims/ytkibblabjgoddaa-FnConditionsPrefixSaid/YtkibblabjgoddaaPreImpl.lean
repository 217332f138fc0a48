/- The walk of impl.Conditions at one condition with a suffix. -/
import Derived.Test.YtkibblabjgoddaaStep
import Derived.Test.YtkibblabjgoddaaCondAll
import Derived.BigQuiet
namespace Go.Proofs.Ytkibblabjgoddaa.Tab
open Go.RowKit Go.Proofs.YtkibblabjgoddaaW.PrintWords Go.Maps Go.WideMaps Go.Proofs.Ytkibblabjgoddaa.PFnConditions

theorem mapV_below {w w' : World} {b n : Nat} {V : Value} {t : ByteArray} (h : MapV w b n V t) (hb : Below w.heap.size w w') : MapV w' b n V t := by
  obtain ⟨D, h, h2⟩ := h
  exact ⟨D, h.kept (grown_of_below hb none) (by simp), h2⟩

set_option maxHeartbeats 8000000 in
set_option maxRecDepth 100000 in
theorem impl_pre (gt gw gp ct cw cp cs : Nat) (A : Option Addr) (ss : List ByteArray) (t s full : ByteArray) (want : Bool) (w : World)
    (hss : ReadsOf Value.string ByteArray.empty w A ss.length ss) (hl : ss.length ≤ 4294967296) (hsz : ∀ x ∈ ss, x.size ≤ 281474976710656) (hts : t.size ≤ 281474976710656) (hs : s.size ≤ 281474976710656)
    (hcut : scriptparse_zzCut.f (t.size + 1) full ⟨#[58]⟩ = some (t, s, true)) (ht : ReadsOf Value.string ByteArray.empty w (some ⟨gt, 0, none⟩) 1 [full]) (hw : ReadsOf Value.bool false w (some ⟨gw, 0, none⟩) 1 [want])
    (hp0 : w.cell? ⟨gp, 0, none⟩ = some (.string t)) (hp1 : w.cell? ⟨gp, 1, none⟩ = some (.slice A ss.length cs)) :
    Calls Try.prog 9 #[.slice (some ⟨gt, 0, none⟩) 1 ct, .slice (some ⟨gw, 0, none⟩) 1 cw, .slice none 0 0, .slice (some ⟨gp, 0, none⟩) 1 cp] w fun e w' => e = .returned (.tuple #[.bool ((ss.any fun x => decide (x = s)) == want), .bool true]) ∧ Below w.heap.size w w' := by
  have hmm := @run_makeMap Try.prog
  have hu35 := Try.underlying35
  have HSS := Aside0.mk hss
  have HSZ := Aside0.mk hsz
  have HCUT := Aside0.mk hcut
  have HT := Aside0.mk ht
  have HW := Aside0.mk hw
  have HP0 := Aside0.mk hp0
  have HP1 := Aside0.mk hp1
  clear hss hsz hcut ht hw hp0 hp1
  have hz1 : (w.alloc (.map #[] 0)).heap.size = w.heap.size + 1 := by simp
  have hM0 : MapB ((w.alloc (.map #[] 0)).alloc (.map #[] 0)) w.heap.size 0 (fun _ => none) := (MapB.made w).kept (World.grownBy_alloc _ _ none) (by simp)
  have hBa : Below w.heap.size w (w.alloc (.map #[] 0)) := (Below.refl _ w).alloc (Nat.le_refl _) _
  have hBb := hBa.alloc hBa.size (.map #[] 0)
  have HM0 := Aside0.mk hM0
  have HB0 := Aside0.mk hBb
  clear hM0 hBa hBb hz1
  go_enter Try.func9, Try.ntmps9
  go_wp2_with fail
  refine wp_loop_rounds 1 ?_
  rw [rounds_succ]
  go_wp2_with fail
  obtain ⟨wa, hwa⟩ : ∃ wa : World, wa = (w.alloc (.map #[] 0)).alloc (.map #[] 0) := ⟨_, rfl⟩
  have y0 : wa.cell? ⟨gp, 0, none⟩ = some (.string t) := by rw [hwa]; exact pw_cell_below HB0.out HP0.out
  have y1 : wa.cell? ⟨gp, 1, none⟩ = some (.slice A ss.length cs) := by rw [hwa]; exact pw_cell_below HB0.out HP1.out
  rw [← hwa]
  have HWA := Aside0.mk hwa
  clear hwa
  refine wp_loop_rounds 2 ?_
  rw [rounds_succ]
  go_wp2_with fail
  have hba := (Below.refl wa.heap.size wa).alloc (Nat.le_refl _) (.cells #[.string t, .slice A ss.length cs] 35)
  have HBA := Aside0.mk hba
  have HSA := Aside0.mk (show ReadsOf Value.string ByteArray.empty wa A ss.length ss by rw [HWA.out]; exact HSS.out.below HB0.out)
  obtain ⟨wb, hwb⟩ : ∃ wb : World, wb = wa.alloc (.cells #[.string t, .slice A ss.length cs] 35) := ⟨_, rfl⟩
  have hwbz : wb.heap.size = wa.heap.size + 1 := by rw [hwb]; simp
  have hcb0 : wb.cell? ⟨wa.heap.size, 0, none⟩ = some (.string t) := by rw [hwb, World.cell?_alloc_at _ _ _ _ rfl]; rfl
  have hcb1 : wb.cell? ⟨wa.heap.size, 1, none⟩ = some (.slice A ss.length cs) := by rw [hwb, World.cell?_alloc_at _ _ _ _ rfl]; rfl
  have hbb : Below wa.heap.size wa wb := by rw [hwb]; exact HBA.out
  rw [← hwb]
  have HBB := Aside0.mk hbb
  have HWB := Aside0.mk hwb
  have HWZ := Aside0.mk hwbz
  have HSB := Aside0.mk (HSA.out.below hbb)
  have HCB0 := Aside0.mk hcb0
  have HO0 := Aside0.mk (show (wb.alloc (.cells #[] 9)).ownsRow wa.heap.size 9 1 (.slice (some ⟨wb.heap.size, 0, none⟩) 0 0) ([] : List ByteArray).length (encs Value.string []) from own_lit_of wb wa.heap.size 9 [] hbb.size (by simp))
  have HMA : Aside0 (wa.heap.size = w.heap.size + 2) := Aside0.mk (by rw [HWA.out]; simp)
  have hblt : wa.heap.size < wb.heap.size := by omega
  have hM0a : MapB wa w.heap.size 0 (fun _ => none) := by rw [HWA.out]; exact HM0.out
  have h20 : ∀ V, wa.ownsMap Try.prog 9 (RV V) (w.heap.size + 1) 0 (.map []) := fun V => by
    have hz1 : (w.alloc (.map #[] 0)).heap.size = w.heap.size + 1 := by simp
    have := World.ownsMap_made (H := Unit) (w.alloc (.map #[] 0)) Try.prog 9 (RV V)
    rw [hz1] at this
    rw [HWA.out]; exact this
  have hBwa : Below w.heap.size w wa := by rw [HWA.out]; exact HB0.out
  have HM0A := Aside0.mk hM0a
  have H20 := Aside0.mk h20
  have HBWA := Aside0.mk hBwa
  have hts2 : t.size ≤ maxLen := by unfold maxLen; omega
  clear hwb hwbz hbb y0 y1 hba hM0a h20 hBwa
  go_region_law (first
    | (refine step_append_row (w0 := wa) Value.string ByteArray.empty wa.heap.size rfl (.tmp 41) (.tmp 43) 29 9 (.string ⟨#[]⟩) 16 rfl Try.underlying29 info9' rfl (by decide) (fun _ => rfl) (.slice (some ⟨wb.heap.size, 0, none⟩) 0 0) [] ss A ss.length cs rfl rfl (by first | exact HO0.out | exact own_drew HO0.out) (by first | exact HSB.out.below ((Below.refl _ wb).alloc (Nat.le_refl _) _) | exact (HSB.out.below ((Below.refl _ wb).alloc (Nat.le_refl _) (.cells #[] 9))).below (below_drew1 (Below.refl _ _))) (by first | exact HBB.out.alloc HBB.out.size _ | exact below_drew1 (HBB.out.alloc HBB.out.size _)) (by first | exact (HBB.out.alloc HBB.out.size _).size | exact (below_drew1 (HBB.out.alloc HBB.out.size (.cells #[] 9))).size) (by simp; omega) ?_; intro v1 w1 hO1 hB1 hg1 _
       obtain ⟨Aa, ca, rfl⟩ := own_slice hO1
       have hc1 : w1.cell? ⟨wa.heap.size, 0, none⟩ = some (.string t) := (hg1.cell_far ⟨wa.heap.size, 0, none⟩ (by show wa.heap.size < (wb.alloc (.cells #[] 9)).heap.size; simp; omega) (by simp [Value.ownBlock]; omega)).trans ((World.cell?_alloc_past _ _ _ hblt).trans HCB0.out)
       have nb1 := own_base hO1
       obtain ⟨w2, hrun2, hM2, hg2⟩ := MapV.store (V := .slice Aa ss.length ca) ((H20.out _).kept (grown_of_below hB1 none) (by simp)) (by omega) t hts2
       have HD : Aside0 (MapV w2 (w.heap.size + 1) 1 (.slice Aa ss.length ca) t ∧ MapB w2 w.heap.size 0 (fun _ => none) ∧ ReadsOf Value.string ByteArray.empty w2 Aa ss.length ss ∧ Below w.heap.size w w2) := Aside0.mk ⟨hM2, (mapB_below HM0A.out hB1).kept hg2 (by simp), own_reads_of' (own_other hO1 hg2 (.inr (fun e => by have := nb1 _ e; have := HMA.out; omega))), (below_weaken HBWA.out (by have := HMA.out; omega) hB1).grown hg2 (by have := HBWA.out.size; have := HMA.out; have := hB1.size; omega) (fun j h => by injection h with h; omega)⟩
       clear hM2 hg2 hO1 hB1 hg1 nb1))
  all_goals clear hrun2 hc1
  all_goals go_wp2_with fail
  all_goals rw [rounds_succ]
  all_goals obtain ⟨hM2, hMB2, hrd2, hB2⟩ := HD.out
  all_goals have HM2 := Aside0.mk hM2
  all_goals have HMB2 := Aside0.mk hMB2
  all_goals have HRD2 := Aside0.mk hrd2
  all_goals have HB2 := Aside0.mk hB2
  all_goals clear hM2 hMB2 hrd2 hB2
  all_goals go_wp2_with (first
        | (at_builtin; refine print_append_row_of (w0 := w2) Value.string ByteArray.empty w2.heap.size rfl (.tmp 47) (.tmp 48) 29 9 (.string ⟨#[]⟩) 16 rfl Try.underlying29 info9' rfl (by decide) (fun _ => rfl) (.slice (some ⟨w2.heap.size, 0, none⟩) 0 0) [] [full] (some ⟨gt, 0, none⟩) 1 ct rfl rfl (own_lit_of w2 w2.heap.size 9 [] (Nat.le_refl _) (by simp)) ((HT.out.below HB2.out).below ((Below.refl _ w2).alloc (Nat.le_refl _) _)) ((Below.refl _ w2).alloc (Nat.le_refl _) _) (by simp) (by simp) ?_; intro v1 w3 hO3 hB3 hg3 _; obtain ⟨ga, ca3, rfl, _, hga⟩ := hO3.form (by simp))
        | (at_builtin; refine print_append_row_of (w0 := w2) Value.bool false w2.heap.size rfl (.tmp 50) (.tmp 51) 24 4 (.bool false) 1 rfl Try.underlying24 info4' rfl (by decide) (fun _ => rfl) (.slice (some ⟨w3.heap.size, 0, none⟩) 0 0) [] [want] (some ⟨gw, 0, none⟩) 1 cw rfl rfl (own_lit_of w3 w2.heap.size 4 [] hB3.size (by simp)) (((HW.out.below HB2.out).below hB3).below ((Below.refl _ w3).alloc (Nat.le_refl _) _)) (hB3.alloc hB3.size _) (hB3.alloc hB3.size _).size (by simp) ?_; intro v3 w4 hO4 hB4 hg4 _; obtain ⟨gc, cc, rfl, _, hgc⟩ := hO4.form (by simp)))
  all_goals have ht3 : w4.cell? ⟨ga, 0, none⟩ = some (.string full) := (hg4.cell_far ⟨ga, 0, none⟩ (by show ga < (w3.alloc (.cells #[] 4)).heap.size; simp; omega) (by simp [Value.ownBlock]; omega)).trans ((World.cell?_alloc_past _ _ _ hga).trans (row_at hO3 0 rfl))
  all_goals have ht4 : w4.cell? ⟨gc, 0, none⟩ = some (.bool want) := row_at hO4 0 rfl
  all_goals (with_reducible refine (zz_pre ga gc _ _ w.heap.size (w.heap.size + 1) 1 ca Aa ss t s full want w4 (mapB_below HMB2.out hB4) (mapV_below HM2.out hB4) (HRD2.out.below hB4) hl HSZ.out hts hs HCUT.out ht3 ht4).mono ?_)
  all_goals rintro e w5 ⟨rfl, b5⟩
  all_goals have HB5 := Aside0.mk (below_then (below_then HB2.out HB2.out.size hB4) (below_then HB2.out HB2.out.size hB4).size b5)
  all_goals clear b5 ht3 ht4 hO3 hO4 hg3 hg4 hB3 hB4 hga hgc
  all_goals obtain ⟨m, hm⟩ : ∃ m, m = ((ss.any fun x => decide (x = s)) == want) := ⟨_, rfl⟩
  all_goals rw [← hm]
  all_goals have HMM := Aside0.mk hm
  all_goals clear hm
  all_goals go_wp2_with fail
  all_goals go_region
  all_goals go_wp2_with fail
  all_goals go_ret2
  all_goals exact ⟨by rw [← HMM.out]; rfl, pw_below_drewN HB5.out 1⟩

end Go.Proofs.Ytkibblabjgoddaa.Tab

/- The walk of impl.Conditions at one condition that is not known. -/
import Derived.Test.YtkibblabjgoddaaZzOne
import Derived.BigQuiet
namespace Go.Proofs.Ytkibblabjgoddaa.Tab
open Go.RowKit Go.Proofs.YtkibblabjgoddaaW.PrintWords Go.Maps Go.WideMaps Go.Proofs.Ytkibblabjgoddaa.PFnConditions

theorem info9' : (Try.prog.info? 9).map (fun i => (i.zero, i.size, i.bytes)) = some (some (.string ⟨#[]⟩), 1, 16) := by kernel_rfl
theorem info4' : (Try.prog.info? 4).map (fun i => (i.zero, i.size, i.bytes)) = some (some (.bool false), 1, 1) := by kernel_rfl

abbrev Rds (w : World) (g : Nat) (s : ByteArray) : Prop := ReadsOf Value.string ByteArray.empty w (some ⟨g, 0, none⟩) 1 [s]
abbrev Rdb (w : World) (g : Nat) : Prop := ReadsOf Value.bool false w (some ⟨g, 0, none⟩) 1 [true]

set_option maxHeartbeats 8000000 in
set_option maxRecDepth 100000 in
theorem impl_one (gt gw ct cw : Nat) (tg : ByteArray) (A : Option Addr) (c0 : Nat) (l : List S27) (w : World) (hr : Kd.C k27 w A l.length l) (hl : l.length ≤ 140737488355328) (hs : ∀ p ∈ l, p.f0.size ≤ 281474976710656)
    (ht : Rds w gt tg) (hw : Rdb w gw) (hne : ∀ p ∈ l, p.f0 ≠ tg) (htg : tg.size ≤ 281474976710656) (hno : ∀ j : Nat, j < tg.size → bt tg (j : Int) ≠ 58) :
    Calls Try.prog 9 #[.slice (some ⟨gt, 0, none⟩) 1 ct, .slice (some ⟨gw, 0, none⟩) 1 cw, .slice A l.length c0, .slice none 0 0] w fun e w' => e = .returned (.tuple #[.bool false, .bool false]) ∧ Below w.heap.size w w' := by
  have hmm := @run_makeMap Try.prog
  have hu27 := Try.underlying27
  have HR := Aside0.mk hr
  have HS := Aside0.mk hs
  have HT := Aside0.mk ht
  have HW := Aside0.mk hw
  have HNE := Aside0.mk hne
  have HNO := Aside0.mk hno
  clear hr hs ht hw hne hno
  have hz1 : (w.alloc (.map #[] 0)).heap.size = w.heap.size + 1 := by simp
  have hM0 : MapB ((w.alloc (.map #[] 0)).alloc (.map #[] 0)) w.heap.size 0 (fun _ => none) := (MapB.made w).kept (World.grownBy_alloc _ _ none) (by simp)
  have h20 : ((w.alloc (.map #[] 0)).alloc (.map #[] 0)).ownsMap Try.prog 9 R42 (w.heap.size + 1) 0 (.map []) := by
    have := World.ownsMap_made (H := Unit) (w.alloc (.map #[] 0)) Try.prog 9 R42
    rwa [hz1] at this
  have hBa : Below w.heap.size w (w.alloc (.map #[] 0)) := (Below.refl _ w).alloc (Nat.le_refl _) _
  have hBb := hBa.alloc hBa.size (.map #[] 0)
  have HM0 := Aside0.mk hM0
  have H20 := Aside0.mk h20
  have HB0 := Aside0.mk hBb
  clear hM0 h20 hBa hBb hz1
  go_enter Try.func9, Try.ntmps9
  go_wp2_with fail
  go_loopw [22] (fun v22 wr => ∃ (k : Nat) (f : ByteArray → Option Bool), v22 = .int .i64 k ∧ k ≤ l.length ∧ f tg = none ∧ MapB wr w.heap.size k f ∧ wr.ownsMap Try.prog 9 R42 (w.heap.size + 1) 0 (.map []) ∧ Below w.heap.size w wr) (fun v22 _ => l.length - (intOf v22).toNat)
  case atStart => exact ⟨0, _, rfl, by omega, rfl, HM0.out, H20.out, HB0.out⟩
  case round =>
    obtain ⟨k, f, rfl, hk, hft, hM, h2, hB⟩ := hrel
    have HFT := Aside0.mk hft
    have HM := Aside0.mk hM
    have H2 := Aside0.mk h2
    have HB := Aside0.mk hB
    clear hM h2 hB hft
    by_cases hk0 : k < l.length
    · have d0 : decide ((k : Int) < (l.length : Int)) = true := decide_eq_true (by omega)
      obtain ⟨ad, e0, hx0, hx1⟩ := at_T27 HR.out (k : Int) (by omega) (by omega)
      have hps : (rd_T27 l (k : Int)).f0.size ≤ 281474976710656 := by
        have e : rd_T27 l (k : Int) = l[k] := by simp [rd_T27, List.getD_eq_getElem?_getD, hk0]
        rw [e]; exact HS.out _ (List.getElem_mem hk0)
      have hpn : (rd_T27 l (k : Int)).f0 ≠ tg := by
        have e : rd_T27 l (k : Int) = l[k] := by simp [rd_T27, List.getD_eq_getElem?_getD, hk0]
        rw [e]; exact HNE.out _ (List.getElem_mem hk0)
      obtain ⟨p, hp⟩ : ∃ p, p = rd_T27 l (k : Int) := ⟨_, rfl⟩
      rw [← hp] at hx0 hx1 hps hpn
      have HPN := Aside0.mk hpn
      clear hpn
      clear hp
      cases e0
      replace hx0 := (HB.out.cell (World.block_lt_of_cell? w _ hx0)).trans hx0
      replace hx1 := (HB.out.cell (World.block_lt_of_cell? w _ hx1)).trans hx1
      obtain ⟨t, m⟩ := p
      simp only [Int.toNat_natCast] at hx0 hx1
      have hMa := HM.out.kept (World.grownBy_alloc wr (.cells #[.string t, .bool m] 27) none) (by simp)
      obtain ⟨w2, hrun, hM2, hg2⟩ := hMa.store (by omega) t m hps
      have hBa := HB.out.alloc HB.out.size (.cells #[.string t, .bool m] 27)
      have HB2 := Aside0.mk (hBa.grown hg2 hBa.size (fun j h => by injection h with h; omega))
      have H22 := Aside0.mk ((H2.out.alloc (.cells #[.string t, .bool m] 27)).kept hg2 (by simp))
      have HM2 := Aside0.mk hM2
      clear hMa hM2 hBa
      go_wp2_with fail
      go_roundw
      case rel => exact ⟨k + 1, _, by go_num, by omega, (by show (if tg = t then some m else f tg) = none; rw [if_neg (fun e => HPN.out e.symm)]; exact HFT.out), HM2.out, H22.out, HB2.out⟩
      case measure => simp [intOf]; omega
    · obtain rfl : k = l.length := by omega
      have d0 : decide ((l.length : Int) < (l.length : Int)) = false := decide_eq_false (by omega)
      go_wp2_with fail
      refine wp_loop_rounds 1 ?_
      rw [rounds_succ]
      have hT := HT.out.below HB.out
      have hwl := HM.out.lt
      have HTr := Aside0.mk hT
      clear hT
      go_wp2_with (first
        | (at_builtin; refine print_append_row_of (w0 := w) Value.string ByteArray.empty w.heap.size rfl (.tmp 47) (.tmp 48) 29 9 (.string ⟨#[]⟩) 16 rfl Try.underlying29 info9' rfl (by decide) (fun _ => rfl) (.slice (some ⟨wr.heap.size, 0, none⟩) 0 0) [] [tg] (some ⟨gt, 0, none⟩) 1 ct rfl rfl (own_lit_of wr w.heap.size 9 [] HB.out.size (by simp)) (HTr.out.below ((Below.refl _ wr).alloc (Nat.le_refl _) _)) (HB.out.alloc HB.out.size _) (HB.out.alloc HB.out.size _).size (by simp) ?_; intro v1 w2 hO2 hB2 hg2 _; obtain ⟨ga, ca, rfl, _, hga⟩ := hO2.form (by simp))
        | (at_builtin; refine print_append_row_of (w0 := w) Value.bool false w.heap.size rfl (.tmp 50) (.tmp 51) 24 4 (.bool false) 1 rfl Try.underlying24 info4' rfl (by decide) (fun _ => rfl) (.slice (some ⟨w2.heap.size, 0, none⟩) 0 0) [] [true] (some ⟨gw, 0, none⟩) 1 cw rfl rfl (own_lit_of w2 w.heap.size 4 [] hB2.size (by simp)) ((HW.out.below hB2).below ((Below.refl _ w2).alloc (Nat.le_refl _) _)) (hB2.alloc hB2.size _) (hB2.alloc hB2.size _).size (by simp) ?_; intro v3 w3 hO3 hB3 hg3 _; obtain ⟨gc, cc, rfl, _, hgc⟩ := hO3.form (by simp)))
      have hs2 : w.heap.size < w2.heap.size := by have h1 := hg2.size; simp at h1; omega
      have hM2 := (HM.out.kept (World.grownBy_alloc wr (.cells #[] 9) none) (by simp)).kept hg2 (by simp [Value.ownBlock]; omega)
      have hM3 := (hM2.kept (World.grownBy_alloc w2 (.cells #[] 4) none) (by simp)).kept hg3 (by simp [Value.ownBlock]; omega)
      have h23 := (((H2.out.alloc (.cells #[] 9)).kept hg2 (by simp [Value.ownBlock]; have := H2.out.lt; omega)).alloc (.cells #[] 4)).kept hg3 (by simp [Value.ownBlock]; have := H2.out.lt; have h1 := hg2.size; simp at h1; omega)
      have ht2 : w2.cell? ⟨ga, 0, none⟩ = some (.string tg) := hO2.cells (g := ga) rfl 0 (.string tg) rfl
      have ht3 : w3.cell? ⟨ga, 0, none⟩ = some (.string tg) := (hg3.cell_far ⟨ga, 0, none⟩ (by show ga < (w2.alloc (.cells #[] 4)).heap.size; simp; omega) (by simp [Value.ownBlock]; omega)).trans ((World.cell?_alloc_past _ _ _ hga).trans ht2)
      have hc3 : w3.cell? ⟨gc, 0, none⟩ = some (.bool true) := hO3.cells (g := gc) rfl 0 (.bool true) rfl
      have HB3 := Aside0.mk hB3
      (with_reducible refine (zz_one ga gc _ _ w.heap.size (w.heap.size + 1) l.length tg f w3 hM3 hl h23 ht3 hc3 HFT.out htg HNO.out).mono ?_)
      rintro e w5 ⟨⟨ea, rfl⟩, b5⟩
      have HB5 := Aside0.mk (below_then HB3.out HB3.out.size b5)
      clear b5 hM2 hM3 h23 ht2 ht3 hc3 hO2 hO3 hg2 hg3 hB2 hB3
      go_wp2_with fail
      go_region
      go_wp2_with fail
      go_ret2
      exact ⟨rfl, pw_below_drewN HB5.out 1⟩

end Go.Proofs.Ytkibblabjgoddaa.Tab

/- The walk of impl.Conditions at known conditions without suffixes. -/
import Derived.Test.YtkibblabjgoddaaZzAll
import Derived.BigQuiet
namespace Go.Proofs.Ytkibblabjgoddaa.Tab
open Go.RowKit Go.Proofs.YtkibblabjgoddaaW.PrintWords Go.Maps Go.WideMaps Go.Proofs.Ytkibblabjgoddaa.PFnConditions

theorem encs_at {α : Type} (enc : α → Value) (xs : List α) (i : Nat) (h : i < xs.length) : (encs enc xs)[i]? = some (enc xs[i]) := by
  simp [encs, h]

set_option maxHeartbeats 8000000 in
set_option maxRecDepth 100000 in
theorem impl_all (At Aw : Option Addr) (ct cw : Nat) (ts : List (Bool × ByteArray)) (met : ByteArray → Bool) (A : Option Addr) (c0 : Nat) (l : List S27) (w : World) (hr : Kd.C k27 w A l.length l) (hl : l.length ≤ 140737488355328) (hs : ∀ p ∈ l, p.f0.size ≤ 281474976710656)
    (ht : ReadsOf Value.string ByteArray.empty w At ts.length (ts.map (·.2))) (hw : ReadsOf Value.bool false w Aw ts.length (ts.map (·.1))) (hmet : ∀ p ∈ l, met p.f0 = p.f1) (hin : ∀ p ∈ ts, ∃ q ∈ l, q.f0 = p.2) (hlt : ts.length ≤ 4294967296) (hno : ∀ p ∈ l, ∀ j : Nat, j < p.f0.size → bt p.f0 (j : Int) ≠ 58) :
    Calls Try.prog 9 #[.slice At ts.length ct, .slice Aw ts.length cw, .slice A l.length c0, .slice none 0 0] w fun e w' => e = .returned (.tuple #[.bool (ts.all fun p => met p.2 == p.1), .bool true]) ∧ Below w.heap.size w w' := by
  have hmm := @run_makeMap Try.prog
  have hu27 := Try.underlying27
  have HR := Aside0.mk hr
  have HS := Aside0.mk hs
  have HT := Aside0.mk ht
  have HW := Aside0.mk hw
  have HMET := Aside0.mk hmet
  have HIN := Aside0.mk hin
  have HNO := Aside0.mk hno
  clear hr hs ht hw hmet hin hno
  have hz1 : (w.alloc (.map #[] 0)).heap.size = w.heap.size + 1 := by simp
  have hM0 : MapB ((w.alloc (.map #[] 0)).alloc (.map #[] 0)) w.heap.size 0 (fun _ => none) := (MapB.made w).kept (World.grownBy_alloc _ _ none) (by simp)
  have h20 : ((w.alloc (.map #[] 0)).alloc (.map #[] 0)).ownsMap Try.prog 9 R42 (w.heap.size + 1) 0 (.map []) := by
    have := World.ownsMap_made (H := Unit) (w.alloc (.map #[] 0)) Try.prog 9 R42
    rwa [hz1] at this
  have hBa : Below w.heap.size w (w.alloc (.map #[] 0)) := (Below.refl _ w).alloc (Nat.le_refl _) _
  have hBb := hBa.alloc hBa.size (.map #[] 0)
  have HM0 := Aside0.mk hM0
  have H20 := Aside0.mk h20
  have HB0 := Aside0.mk hBb
  clear hM0 h20 hBa hBb hz1
  go_enter Try.func9, Try.ntmps9
  go_wp2_with fail
  go_loopw [22] (fun v22 wr => ∃ (k : Nat) (f : ByteArray → Option Bool), v22 = .int .i64 k ∧ k ≤ l.length ∧ (∀ i, (h : i < l.length) → i < k → f l[i].f0 = some (met l[i].f0)) ∧ MapB wr w.heap.size k f ∧ wr.ownsMap Try.prog 9 R42 (w.heap.size + 1) 0 (.map []) ∧ Below w.heap.size w wr) (fun v22 _ => l.length - (intOf v22).toNat)
  case atStart => exact ⟨0, _, rfl, by omega, fun i _ h => by omega, HM0.out, H20.out, HB0.out⟩
  case round =>
    obtain ⟨k, f, rfl, hk, hft, hM, h2, hB⟩ := hrel
    have HFT := Aside0.mk hft
    have HM := Aside0.mk hM
    have H2 := Aside0.mk h2
    have HB := Aside0.mk hB
    clear hM h2 hB hft
    by_cases hk0 : k < l.length
    · have d0 : decide ((k : Int) < (l.length : Int)) = true := decide_eq_true (by omega)
      obtain ⟨ad, e0, hx0, hx1⟩ := at_T27 HR.out (k : Int) (by omega) (by omega)
      have hps : (rd_T27 l (k : Int)).f0.size ≤ 281474976710656 := by
        have e : rd_T27 l (k : Int) = l[k] := by simp [rd_T27, List.getD_eq_getElem?_getD, hk0]
        rw [e]; exact HS.out _ (List.getElem_mem hk0)
      have hpm : met (rd_T27 l (k : Int)).f0 = (rd_T27 l (k : Int)).f1 := by
        have e : rd_T27 l (k : Int) = l[k] := by simp [rd_T27, List.getD_eq_getElem?_getD, hk0]
        rw [e]; exact HMET.out _ (List.getElem_mem hk0)
      have hpe : rd_T27 l (k : Int) = l[k] := by simp [rd_T27, List.getD_eq_getElem?_getD, hk0]
      obtain ⟨p, hp⟩ : ∃ p, p = rd_T27 l (k : Int) := ⟨_, rfl⟩
      rw [← hp] at hx0 hx1 hps hpm hpe
      have HPM := Aside0.mk hpm
      have HPE := Aside0.mk hpe
      clear hpm hpe
      clear hp
      cases e0
      replace hx0 := (HB.out.cell (World.block_lt_of_cell? w _ hx0)).trans hx0
      replace hx1 := (HB.out.cell (World.block_lt_of_cell? w _ hx1)).trans hx1
      obtain ⟨t, m⟩ := p
      simp only [Int.toNat_natCast] at hx0 hx1
      have hMa := HM.out.kept (World.grownBy_alloc wr (.cells #[.string t, .bool m] 27) none) (by simp)
      obtain ⟨w2, hrun, hM2, hg2⟩ := hMa.store (by omega) t m hps
      have hBa := HB.out.alloc HB.out.size (.cells #[.string t, .bool m] 27)
      have HB2 := Aside0.mk (hBa.grown hg2 hBa.size (fun j h => by injection h with h; omega))
      have H22 := Aside0.mk ((H2.out.alloc (.cells #[.string t, .bool m] 27)).kept hg2 (by simp))
      have HM2 := Aside0.mk hM2
      clear hMa hM2 hBa
      go_wp2_with fail
      go_roundw
      case rel => exact ⟨k + 1, _, by go_num, by omega, (fun i h hi => by
        show (if l[i].f0 = t then some m else f l[i].f0) = some (met l[i].f0)
        by_cases e : l[i].f0 = t
        · rw [if_pos e, e]; exact congrArg some HPM.out.symm
        · rw [if_neg e]
          refine HFT.out i h ?_
          have : i ≠ k := fun e2 => by subst e2; exact e (by rw [← HPE.out])
          omega), HM2.out, H22.out, HB2.out⟩
      case measure => simp [intOf]; omega
    · obtain rfl : k = l.length := by omega
      have d0 : decide ((l.length : Int) < (l.length : Int)) = false := decide_eq_false (by omega)
      go_wp2_with fail
      refine wp_loop_rounds 1 ?_
      rw [rounds_succ]
      have hT := HT.out.below HB.out
      have hwl := HM.out.lt
      have HTr := Aside0.mk hT
      clear hT
      have HFA : Aside0 (∀ p ∈ ts, f p.2 = some (met p.2) ∧ p.2.size ≤ 281474976710656 ∧ ∀ j : Nat, j < p.2.size → bt p.2 (j : Int) ≠ 58) := Aside0.mk (fun p hp => by
        obtain ⟨q, hq, e⟩ := HIN.out p hp
        obtain ⟨i, hi, rfl⟩ := List.getElem_of_mem hq
        rw [← e]
        exact ⟨HFT.out i hi hi, HS.out _ hq, HNO.out _ hq⟩)
      go_wp2_with (first
        | (at_builtin; refine print_append_row_of (w0 := w) Value.string ByteArray.empty w.heap.size rfl (.tmp 47) (.tmp 48) 29 9 (.string ⟨#[]⟩) 16 rfl Try.underlying29 info9' rfl (by decide) (fun _ => rfl) (.slice (some ⟨wr.heap.size, 0, none⟩) 0 0) [] (ts.map (·.2)) At ts.length ct rfl rfl (own_lit_of wr w.heap.size 9 [] HB.out.size (by simp)) (HTr.out.below ((Below.refl _ wr).alloc (Nat.le_refl _) _)) (HB.out.alloc HB.out.size _) (HB.out.alloc HB.out.size _).size (by simp; omega) ?_; intro v1 w2 hO2 hB2 hg2 _; simp only [List.nil_append, List.length_map] at hO2; obtain ⟨Aa, ca, rfl⟩ := own_slice hO2)
        | (at_builtin; refine print_append_row_of (w0 := w) Value.bool false w.heap.size rfl (.tmp 50) (.tmp 51) 24 4 (.bool false) 1 rfl Try.underlying24 info4' rfl (by decide) (fun _ => rfl) (.slice (some ⟨w2.heap.size, 0, none⟩) 0 0) [] (ts.map (·.1)) Aw ts.length cw rfl rfl (own_lit_of w2 w.heap.size 4 [] hB2.size (by simp)) ((HW.out.below hB2).below ((Below.refl _ w2).alloc (Nat.le_refl _) _)) (hB2.alloc hB2.size _) (hB2.alloc hB2.size _).size (by simp; omega) ?_; intro v3 w3 hO3 hB3 hg3 _; simp only [List.nil_append, List.length_map] at hO3; obtain ⟨Ac, cc, rfl⟩ := own_slice hO3))
      have hs2 : w.heap.size < w2.heap.size := by have h1 := hg2.size; simp at h1; omega
      have nb2 := own_base hO2
      have nb3 := own_base hO3
      have hM2 := (HM.out.kept (World.grownBy_alloc wr (.cells #[] 9) none) (by simp)).kept hg2 (by simp [Value.ownBlock]; omega)
      have hM3 := (hM2.kept (World.grownBy_alloc w2 (.cells #[] 4) none) (by simp)).kept hg3 (by simp [Value.ownBlock]; omega)
      have h23 := (((H2.out.alloc (.cells #[] 9)).kept hg2 (by simp [Value.ownBlock]; have := H2.out.lt; omega)).alloc (.cells #[] 4)).kept hg3 (by simp [Value.ownBlock]; have := H2.out.lt; have h1 := hg2.size; simp at h1; omega)
      have HM3 := Aside0.mk hM3
      have H23 := Aside0.mk h23
      have HB3 := Aside0.mk hB3
      by_cases hz : ts.length = 0
      · have e2 : ts = [] := List.length_eq_zero_iff.1 hz
        subst e2
        clear hM2 hM3 h23 hO2 hO3 hg2 hg3 hB2 hB3 nb2 nb3 hz
        simp only [List.length_nil]
        (with_reducible refine (zz_none Aa Ac _ _ w.heap.size (w.heap.size + 1) l.length f w3 HM3.out hl H23.out).mono ?_)
        rintro e w5 ⟨rfl, b5⟩
        have HB5 := Aside0.mk (below_then HB3.out HB3.out.size b5)
        clear b5
        go_wp2_with fail
        go_region
        go_wp2_with fail
        go_ret2
        exact ⟨rfl, pw_below_drewN HB5.out 1⟩
      · obtain ⟨ga, ca2, e2, _, hga⟩ := hO2.form (by omega)
        injection e2 with e2 _ e3
        subst e2 e3
        obtain ⟨gc, cc2, e4, _, hgc⟩ := hO3.form (by omega)
        injection e4 with e4 _ e5
        subst e4 e5
        have HT3 := Aside0.mk (fun i (h : i < ts.length) => (⟨(hg3.cell_far ⟨ga, i, none⟩ (by show ga < (w2.alloc (.cells #[] 4)).heap.size; simp; omega) (by simp [Value.ownBlock]; omega)).trans ((World.cell?_alloc_past _ _ _ hga).trans (row_at hO2 i (by rw [encs_at _ _ i (by simpa using h)]; simp))), row_at hO3 i (by rw [encs_at _ _ i (by simpa using h)]; simp)⟩ : w3.cell? ⟨ga, i, none⟩ = some (.string ts[i].2) ∧ w3.cell? ⟨gc, i, none⟩ = some (.bool ts[i].1)))
        clear hM2 hM3 h23 hO2 hO3 hg2 hg3 hB2 hB3 nb2 nb3 hz hga hgc
        (with_reducible refine (zz_all ga gc _ _ w.heap.size (w.heap.size + 1) l.length ts met f w3 HM3.out hl H23.out HT3.out hlt HFA.out).mono ?_)
        rintro e w5 ⟨rfl, b5⟩
        have HB5 := Aside0.mk (below_then HB3.out HB3.out.size b5)
        clear b5
        go_wp2_with fail
        go_region
        go_wp2_with fail
        go_ret2
        exact ⟨rfl, pw_below_drewN HB5.out 1⟩

end Go.Proofs.Ytkibblabjgoddaa.Tab

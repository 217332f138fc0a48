/- The walk of ZZConditionsActive at one condition that is not known. -/
import Derived.Test.YtkibblabjgoddaaOne
namespace Go.Proofs.Ytkibblabjgoddaa.Tab
open Go.RowKit Go.Proofs.YtkibblabjgoddaaW.PrintWords Go.Maps Go.WideMaps Go.Proofs.Ytkibblabjgoddaa.PFnConditions

theorem info57 : (Try.prog.info? 57).map (fun i => (i.zero, i.size, i.bytes)) = some (some (.agg #[.bool false, .string ⟨#[]⟩]), 2, 24) := by kernel_rfl

set_option maxHeartbeats 8000000 in
set_option maxRecDepth 100000 in
theorem zz_one (g0 g1 c0 c1 b1 b2 n1 : Nat) (tg : ByteArray) (f : ByteArray → Option Bool) (w : World) (h1 : MapB w b1 n1 f) (hn1 : n1 ≤ 140737488355328) (h2 : w.ownsMap Try.prog 9 R42 b2 0 (.map []))
    (ht : w.cell? ⟨g0, 0, none⟩ = some (.string tg)) (hw : w.cell? ⟨g1, 0, none⟩ = some (.bool true)) (hf : f tg = none) (htg : tg.size ≤ 281474976710656) (hno : ∀ j : Nat, j < tg.size → bt tg (j : Int) ≠ 58) :
    Calls Try.prog 13 #[.slice (some ⟨g0, 0, none⟩) 1 c0, .slice (some ⟨g1, 0, none⟩) 1 c1, .map (some b1), .map (some b2)] w fun e w' => (∃ a : Nat, e = .returned (.tuple #[.bool false, .iface 72 (.pointer (some ⟨a, 0, none⟩))])) ∧ Below w.heap.size w w' := by
  have hmm := @run_makeMap Try.prog
  obtain ⟨D1, hown, hsay⟩ := h1
  have HO := Aside0.mk hown
  have HS := Aside0.mk hsay
  have H2 := Aside0.mk h2
  have HT := Aside0.mk ht
  have HW := Aside0.mk hw
  have HF := Aside0.mk hf
  have HNO := Aside0.mk hno
  clear hown hsay h2 ht hw hf hno
  go_enter Try.func13, Try.ntmps13
  go_wp2_with (first | (at_range; refine wpList_range_own _ rfl _ 41 rfl 9 4 law9 Try.underlying41 _ b1 n1 D1 rfl ((HO.out.alloc _).alloc _) ?_; intro w0 hrg0 hg0 hs0))
  go_frame
  obtain ⟨r, hr⟩ : ∃ r, r = ((w.alloc (.map #[] 0)).alloc (.cells #[.map (some w.heap.size)] 50)).heap.size := ⟨_, rfl⟩
  have hr2 : r = w.heap.size + 2 := by rw [hr]; simp
  have hE0 : MapE w0 w.heap.size 0 (fun _ => none) := ((MapE.made w).kept (World.grownBy_alloc _ _ none) (by simp)).kept hg0 (by simp)
  have hc0 : w0.cell? ⟨w.heap.size + 1, 0, none⟩ = some (.map (some w.heap.size)) := by
    have hz : (w.alloc (.map #[] 0)).heap.size = w.heap.size + 1 := by simp
    have h := World.cell?_alloc_at (w := w.alloc (.map #[] 0)) #[.map (some w.heap.size)] 50 (w.heap.size + 1) 0 hz.symm
    exact (hg0.cell_far ⟨w.heap.size + 1, 0, none⟩ (by simp) (by simp)).trans h
  have hBa : Below w.heap.size w (w.alloc (.map #[] 0)) := (Below.refl _ w).alloc (Nat.le_refl _) _
  have hBb := hBa.alloc hBa.size (.cells #[.map (some w.heap.size)] 50)
  have hB0 : Below w.heap.size w w0 := hBb.grown hg0 hBb.size (fun _ h => by cases h)
  have h20 : w0.ownsMap Try.prog 9 R42 b2 0 (.map []) := ((H2.out.alloc _).alloc _).kept hg0 (by simp)
  rw [← hr] at hrg0 ⊢
  have hsD := size_le HO.out
  have HE0 := Aside0.mk hE0
  have HC0 := Aside0.mk hc0
  have HB0 := Aside0.mk hB0
  have H20 := Aside0.mk h20
  have HR0 := Aside0.mk hrg0
  have HR := Aside0.mk hr2
  clear hE0 hc0 hBa hBb hB0 h20 hrg0 hr2 hr hg0 hs0
  go_loopw [26] (fun _ wr => ∃ (left : Lit → Bool) (cnt n : Nat) (g : ByteArray → Option (Bool × Nat)), wr.ranges Try.prog 9 (plainElem Try.prog 4) b1 r n1 D1 left cnt ∧ MapE wr w.heap.size n g ∧ g tg = none ∧ left (ky tg) = false ∧ n + cnt ≤ size D1 ∧
    wr.cell? ⟨w.heap.size + 1, 0, none⟩ = some (.map (some w.heap.size)) ∧ wr.ownsMap Try.prog 9 R42 b2 0 (.map []) ∧ Below w.heap.size w wr) (fun _ wr => wr.rangeLeft b1 r)
  case atStart => exact ⟨_, _, 0, _, HR0.out, HE0.out, rfl, (by
    have h : has D1 (ky tg) = ((f tg).map fun m => DataW.lit (H := Unit) (Lit.bool m)).isSome := (HS.out tg).2
    rw [HF.out] at h
    exact h), by omega, HC0.out, H20.out, HB0.out⟩
  case round =>
    obtain ⟨left, cnt, n, g, hrg, hE, hgt, hlt0, hn, hc, h2, hB⟩ := hrel
    have HGT := Aside0.mk hgt
    have HLT := Aside0.mk hlt0
    have HRG := Aside0.mk hrg
    have HE := Aside0.mk hE
    have HB := Aside0.mk hB
    have H2r := Aside0.mk h2
    clear hrg hE hB h2 hgt hlt0
    have hbl : b1 < w.heap.size := HO.out.lt
    have hb2l : b2 < w.heap.size := H2.out.lt
    go_wp2_with (first
      | (at_next; refine wpList_next_ranges _ rfl _ rfl 9 law9 (plainElem Try.prog 4) Value.string Value.bool invK9 invV4 b1 r n1 D1 left cnt rfl HRG.out (fun _ _ => ?_) (fun x c kl y w1 cnt1 hkx hlx hRc hat hrg1 hlt hg1 hs1 hen => ?_); rotate_left; have HS1 := Aside0.mk hs1; clear hs1; have hsw : w.heap.size < w1.heap.size := (by have h1 := HS1.out; have h2 := HRG.out.lt; have h3 := HR.out; omega); have hsz := HB.out.size; have hrl := HRG.out.lt; have hE1 := HE.out.kept hg1 (by have hq := HR.out; simp; omega); have hc1 : w1.cell? ⟨w.heap.size + 1, 0, none⟩ = some (.map (some w.heap.size)) := (hg1.cell_far ⟨w.heap.size + 1, 0, none⟩ (by have hq := HR.out; show w.heap.size + 1 < wr.heap.size; omega) (by have hq := HR.out; simp; omega)).trans hc; obtain ⟨w2, hrun2, hM2, hg2⟩ := (MapB.made w1).store (by omega) ⟨#[]⟩ c (by decide); have hE2 : MapE w2 w.heap.size n g := (hE1.kept (World.grownBy_alloc w1 (.map #[] 0) none) (by simp)).kept hg2 (by simp; omega); obtain ⟨w3, hrun3, hE3, hg3⟩ := hE2.store (by omega) x false w1.heap.size (key_of hkx).1; rotate_left)
      | (at_range; refine wpList_range_own _ rfl _ 42 rfl 9 29 law9 Try.underlying42 R42 b2 0 (.map []) rfl H2r.out ?_; intro w4 hrg4 hg4 hs4))
    · go_frame
      clear hs4
      have HB4 := Aside0.mk (HB.out.grown hg4 HB.out.size (fun _ h => by cases h))
      refine wp_loop_rounds 1 ?_
      rw [rounds_succ]
      go_wp2_with (at_next; refine wpList_next_ranges _ rfl _ rfl 9 law9 R42 Value.string id invK9 (fun v _ _ => ⟨v, rfl⟩) b2 _ 0 (.map []) _ 0 rfl hrg4 (fun _ _ => ?_) (fun _ _ _ _ _ _ _ _ _ _ _ hlt _ _ _ => absurd hlt (Nat.not_lt_zero _)))
      have hb40 := HB4.out
      have hT4 : w4.cell? ⟨g0, 0, none⟩ = some (.string tg) := (hb40.cell (World.block_lt_of_cell? w _ HT.out)).trans HT.out
      have hW4 : w4.cell? ⟨g1, 0, none⟩ = some (.bool true) := (hb40.cell (World.block_lt_of_cell? w _ HW.out)).trans HW.out
      have hE4 := HE.out.kept hg4 (by simp)
      have hC4 : w4.cell? ⟨w.heap.size + 1, 0, none⟩ = some (.map (some w.heap.size)) := (hg4.cell_far ⟨w.heap.size + 1, 0, none⟩ (World.block_lt_of_cell? wr _ hc) (by simp)).trans hc
      have HE4 := Aside0.mk hE4
      have HC4 := Aside0.mk hC4
      clear hE4 hC4 hb40
      refine wp_loop_rounds 2 ?_
      rw [rounds_succ]
      go_wp2_with (at_builtin; refine print_append_cells (w0 := w) w.heap.size rfl (.tmp 73) (.tmp 80) 55 57 (.agg #[.bool false, .string ⟨#[]⟩]) 2 24 rfl Try.underlying55 info57 rfl (by decide) (by decide) (.slice none 0 0) 0 [] [.bool true, .string tg] rfl rfl rfl (fun u hu => by
        rcases List.mem_cons.1 hu with h | h
        · subst h; rfl
        · rw [List.mem_singleton] at h; subst h; rfl) (World.ownsRow_nil _ _ _ _) HB4.out HB4.out.size (by decide) ?_; intro v1 w6 hO6 hB6 hg6 _; obtain ⟨g6, c6, rfl, _, hlt6⟩ := hO6.form (by decide))
      have hq0 : w6.cell? ⟨g6, 0, none⟩ = some (.bool true) := hO6.cells (g := g6) rfl 0 (.bool true) rfl
      have hq1 : w6.cell? ⟨g6, 1, none⟩ = some (.string tg) := hO6.cells (g := g6) rfl 1 (.string tg) rfl
      have hE6 := HE4.out.kept hg6 (by simp [Value.ownBlock])
      have hC6 : w6.cell? ⟨w.heap.size + 1, 0, none⟩ = some (.map (some w.heap.size)) := (hg6.cell_far ⟨w.heap.size + 1, 0, none⟩ (World.block_lt_of_cell? w4 _ HC4.out) (by simp [Value.ownBlock])).trans HC4.out
      have HQ0 := Aside0.mk hq0
      have HQ1 := Aside0.mk hq1
      have HE6 := Aside0.mk hE6
      have HC6 := Aside0.mk hC6
      have HB6 := Aside0.mk hB6
      clear hq0 hq1 hE6 hC6 hB6 hO6 hg6
      rw [rounds_succ]
      go_wp2_with fail
      have hb7 := HB6.out.alloc HB6.out.size (.cells #[.map none] 62)
      have ha7 : Below w6.heap.size w6 (w6.alloc (.cells #[.map none] 62)) := (Below.refl _ w6).alloc (Nat.le_refl _) _
      (with_reducible refine (active_one (w.heap.size + 1) w.heap.size n g _ g6 c6 tg _ ((ha7.cell (World.block_lt_of_cell? w6 _ HC6.out)).trans HC6.out) (HE6.out.kept (World.grownBy_alloc w6 _ none) (by simp)) HGT.out htg HNO.out ((ha7.cell (World.block_lt_of_cell? w6 _ HQ0.out)).trans HQ0.out) ((ha7.cell (World.block_lt_of_cell? w6 _ HQ1.out)).trans HQ1.out)).mono ?_)
      rintro e w8 ⟨⟨ea, rfl⟩, b8⟩
      have HB8 := Aside0.mk (below_then hb7 hb7.size b8)
      clear b8 hb7 ha7
      go_wp2_with fail
      go_ret2
      exact ⟨⟨ea, rfl⟩, HB8.out⟩
    · have hr := Aside0.mk HR.out
      have hrlt := HRG.out.lt
      have hr1 : r < w1.heap.size := by rw [HS1.out]; exact hrlt
      have hz1 : (w1.alloc (.map #[] 0)).heap.size = w1.heap.size + 1 := by simp
      have s2 := hg2.size
      have hrgF : w3.ranges Try.prog 9 (plainElem Try.prog 4) b1 r n1 D1 (fun z => left z && !z.sameKey kl) cnt1 :=
        ((hrg1.alloc (.map #[] 0)).kept hg2 (by simp; omega) (by simp; omega)).kept hg3 (by simp; omega) (by have := HR.out; simp; omega)
      have hcF : w3.cell? ⟨w.heap.size + 1, 0, none⟩ = some (.map (some w.heap.size)) :=
        (hg3.cell_far ⟨w.heap.size + 1, 0, none⟩ (by have := HR.out; show w.heap.size + 1 < w2.heap.size; omega) (by simp)).trans
          ((hg2.cell_far ⟨w.heap.size + 1, 0, none⟩ (by have := HR.out; show w.heap.size + 1 < (w1.alloc (.map #[] 0)).heap.size; omega) (by have := HR.out; simp; omega)).trans
            ((World.cell?_alloc_past _ _ _ (by have := HR.out; omega)).trans hc1))
      have h2F : w3.ownsMap Try.prog 9 R42 b2 0 (.map []) := (((H2r.out.kept hg1 (by have := HR.out; simp; omega)).alloc _).kept hg2 (by simp; omega)).kept hg3 (by simp; omega)
      have hB1 := HB.out.grown hg1 HB.out.size (fun k h => by have := HR.out; injection h with h; omega)
      have hBF : Below w.heap.size w w3 := (((hB1.alloc hB1.size (.map #[] 0)).grown hg2 (by omega) (fun k h => by injection h with h; omega))).grown hg3 (by omega) (fun k h => by injection h with h; omega)
      have HG5 : Aside0 ((if tg = x then some (false, w1.heap.size) else g tg) = none) := Aside0.mk (by
        rw [if_neg (fun e => by
          have h1 := HLT.out
          rw [e, ← (key_of hkx).2, hlx] at h1
          cases h1)]
        exact HGT.out)
      have HF1 := Aside0.mk hrgF
      have HF2 := Aside0.mk hcF
      have HF3 := Aside0.mk h2F
      have HF4 := Aside0.mk hBF
      have HF5 := Aside0.mk hE3
      clear hrgF hcF h2F hBF hB1 hz1 hE3
      go_roundw
      case rel => exact ⟨_, cnt1, n + 1, _, HF1.out, HF5.out, HG5.out, by rw [HLT.out]; rfl, by omega, HF2.out, HF3.out, HF4.out⟩
      case measure => rw [HF1.out.left_eq, HRG.out.left_eq]; exact hlt

end Go.Proofs.Ytkibblabjgoddaa.Tab

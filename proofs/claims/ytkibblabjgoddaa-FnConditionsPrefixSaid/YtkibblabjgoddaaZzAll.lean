/- The walk of ZZConditionsActive where all conditions are known, none with a suffix. -/
import Derived.Test.YtkibblabjgoddaaActive
namespace Go.Proofs.Ytkibblabjgoddaa.Tab
open Go.RowKit Go.Proofs.YtkibblabjgoddaaW.PrintWords Go.Maps Go.WideMaps Go.Proofs.Ytkibblabjgoddaa.PFnConditions

theorem known_below {w w' : World} {g : ByteArray → Option (Bool × Nat)} {met : ByteArray → Bool} {t : ByteArray} (h : Known w g met t) (hb : Below w.heap.size w w') : Known w' g met t := by
  obtain ⟨k2, k3, b', q1, q3⟩ := h
  exact ⟨k2, k3, b', q1, mapB_below q3 hb⟩

theorem row_at {w : World} {base e size n c g : Nat} {xs : List Value} (h : w.ownsRow base e size (.slice (some ⟨g, 0, none⟩) n c) n xs) (i : Nat) {u : Value} (hu : xs[i]? = some u) : w.cell? ⟨g, i, none⟩ = some u := by
  have := h.cells (g := g) rfl i u hu
  rwa [add_plain] at this

/-- a list of conditions as cells -/
def flat : List (Bool × ByteArray) → List Value
  | [] => []
  | p :: l => .bool p.1 :: .string p.2 :: flat l

theorem flat_snoc (l : List (Bool × ByteArray)) (p : Bool × ByteArray) : flat (l ++ [p]) = flat l ++ [.bool p.1, .string p.2] := by
  induction l with
  | nil => rfl
  | cons q l ih => simp only [List.cons_append, flat, ih]

theorem flat_get (l : List (Bool × ByteArray)) : ∀ (i : Nat) (h : i < l.length), (flat l)[i * 2]? = some (.bool l[i].1) ∧ (flat l)[i * 2 + 1]? = some (.string l[i].2) := by
  induction l with
  | nil => intro i h; exact absurd h (Nat.not_lt_zero _)
  | cons q l ih =>
    intro i h
    cases i with
    | zero => exact ⟨rfl, rfl⟩
    | succ i =>
      have e : (i + 1) * 2 = i * 2 + 1 + 1 := by omega
      have := ih i (by simpa using h)
      rw [e]
      simpa [flat] using this

set_option maxHeartbeats 8000000 in
set_option maxRecDepth 100000 in
theorem zz_all (g0 g1 c0 c1 b1 b2 n1 : Nat) (ts : List (Bool × ByteArray)) (met : ByteArray → Bool) (f : ByteArray → Option Bool) (w : World) (h1 : MapB w b1 n1 f) (hn1 : n1 ≤ 140737488355328) (h2 : w.ownsMap Try.prog 9 R42 b2 0 (.map []))
    (ht : ∀ i, (h : i < ts.length) → w.cell? ⟨g0, i, none⟩ = some (.string ts[i].2) ∧ w.cell? ⟨g1, i, none⟩ = some (.bool ts[i].1)) (hl : ts.length ≤ 4294967296)
    (hk : ∀ p ∈ ts, f p.2 = some (met p.2) ∧ p.2.size ≤ 281474976710656 ∧ ∀ j : Nat, j < p.2.size → bt p.2 (j : Int) ≠ 58) :
    Calls Try.prog 13 #[.slice (some ⟨g0, 0, none⟩) ts.length c0, .slice (some ⟨g1, 0, none⟩) ts.length c1, .map (some b1), .map (some b2)] w fun e w' => e = .returned (.tuple #[.bool (ts.all fun p => met p.2 == p.1), .nilIface]) ∧ Below w.heap.size w w' := by
  have hmm := @run_makeMap Try.prog
  obtain ⟨D1, hown, hsay⟩ := h1
  have HO := Aside0.mk hown
  have HS := Aside0.mk hsay
  have H2 := Aside0.mk h2
  have HT := Aside0.mk ht
  have HK := Aside0.mk hk
  clear hown hsay h2 ht hk
  go_enter Try.func13, Try.ntmps13
  go_wp2_with (first | (at_range; refine wpList_range_own _ rfl _ 41 rfl 9 4 law9 Try.underlying41 _ b1 n1 D1 rfl ((HO.out.alloc _).alloc _) ?_; intro w0 hrg0 hg0 hs0))
  go_frame
  obtain ⟨r, hr⟩ : ∃ r, r = ((w.alloc (.map #[] 0)).alloc (.cells #[.map (some w.heap.size)] 50)).heap.size := ⟨_, rfl⟩
  have hr2 : r = w.heap.size + 2 := by rw [hr]; simp
  have hE0 : MapE w0 w.heap.size 0 (fun _ => none) := ((MapE.made w).kept (World.grownBy_alloc _ _ none) (by simp)).kept hg0 (by simp)
  have hc0 : w0.cell? ⟨w.heap.size + 1, 0, none⟩ = some (.map (some w.heap.size)) := by
    have hz : (w.alloc (.map #[] 0)).heap.size = w.heap.size + 1 := by simp
    have h := World.cell?_alloc_at (w := w.alloc (.map #[] 0)) #[.map (some w.heap.size)] 50 (w.heap.size + 1) 0 hz.symm
    exact (hg0.cell_far ⟨w.heap.size + 1, 0, none⟩ (by simp) (by simp)).trans h
  have hBa : Below w.heap.size w (w.alloc (.map #[] 0)) := (Below.refl _ w).alloc (Nat.le_refl _) _
  have hBb := hBa.alloc hBa.size (.cells #[.map (some w.heap.size)] 50)
  have hB0 : Below w.heap.size w w0 := hBb.grown hg0 hBb.size (fun _ h => by cases h)
  have h20 : w0.ownsMap Try.prog 9 R42 b2 0 (.map []) := ((H2.out.alloc _).alloc _).kept hg0 (by simp)
  rw [← hr] at hrg0 ⊢
  have hsD := size_le HO.out
  have HE0 := Aside0.mk hE0
  have HC0 := Aside0.mk hc0
  have HB0 := Aside0.mk hB0
  have H20 := Aside0.mk h20
  have HR0 := Aside0.mk hrg0
  have HR := Aside0.mk hr2
  clear hE0 hc0 hBa hBb hB0 h20 hrg0 hr2 hr hg0 hs0
  go_loopw [26] (fun _ wr => ∃ (left : Lit → Bool) (cnt n : Nat) (g : ByteArray → Option (Bool × Nat)), wr.ranges Try.prog 9 (plainElem Try.prog 4) b1 r n1 D1 left cnt ∧ MapE wr w.heap.size n g ∧ (∀ s m, f s = some m → left (ky s) = false → ∃ b', g s = some (false, b') ∧ r < b' ∧ MapB wr b' 1 (fun y => if y = ByteArray.empty then some m else none)) ∧ n + cnt ≤ size D1 ∧
    wr.cell? ⟨w.heap.size + 1, 0, none⟩ = some (.map (some w.heap.size)) ∧ wr.ownsMap Try.prog 9 R42 b2 0 (.map []) ∧ Below w.heap.size w wr) (fun _ wr => wr.rangeLeft b1 r)
  case atStart => exact ⟨_, _, 0, _, HR0.out, HE0.out, (fun s m h1 h2 => by
    have h : has D1 (ky s) = ((f s).map fun m => DataW.lit (H := Unit) (Lit.bool m)).isSome := (HS.out s).2
    rw [h1] at h
    rw [h] at h2
    cases h2), by omega, HC0.out, H20.out, HB0.out⟩
  case round =>
    obtain ⟨left, cnt, n, g, hrg, hE, hgt, hn, hc, h2, hB⟩ := hrel
    have HGT := Aside0.mk hgt
    have HRG := Aside0.mk hrg
    have HE := Aside0.mk hE
    have HB := Aside0.mk hB
    have H2r := Aside0.mk h2
    clear hrg hE hB h2 hgt
    have hbl : b1 < w.heap.size := HO.out.lt
    have hb2l : b2 < w.heap.size := H2.out.lt
    go_wp2_with (first
      | (at_next; refine wpList_next_ranges _ rfl _ rfl 9 law9 (plainElem Try.prog 4) Value.string Value.bool invK9 invV4 b1 r n1 D1 left cnt rfl HRG.out (fun hcnt hleft => ?_) (fun x c kl y w1 cnt1 hkx hlx hRc hat hrg1 hlt hg1 hs1 hen => ?_); rotate_left; have HS1 := Aside0.mk hs1; clear hs1; have hsw : w.heap.size < w1.heap.size := (by have h1 := HS1.out; have h2 := HRG.out.lt; have h3 := HR.out; omega); have hsz := HB.out.size; have hrl := HRG.out.lt; have hE1 := HE.out.kept hg1 (by have hq := HR.out; simp; omega); have hc1 : w1.cell? ⟨w.heap.size + 1, 0, none⟩ = some (.map (some w.heap.size)) := (hg1.cell_far ⟨w.heap.size + 1, 0, none⟩ (by have hq := HR.out; show w.heap.size + 1 < wr.heap.size; omega) (by have hq := HR.out; simp; omega)).trans hc; obtain ⟨w2, hrun2, hM2, hg2⟩ := (MapB.made w1).store (by omega) ⟨#[]⟩ c (by decide); have hE2 : MapE w2 w.heap.size n g := (hE1.kept (World.grownBy_alloc w1 (.map #[] 0) none) (by simp)).kept hg2 (by simp; omega); obtain ⟨w3, hrun3, hE3, hg3⟩ := hE2.store (by omega) x false w1.heap.size (key_of hkx).1; rotate_left)
      | (at_range; refine wpList_range_own _ rfl _ 42 rfl 9 29 law9 Try.underlying42 R42 b2 0 (.map []) rfl H2r.out ?_; intro w4 hrg4 hg4 hs4))
    · go_frame
      clear hs4
      have HLF := Aside0.mk hleft
      have HB4 := Aside0.mk (HB.out.grown hg4 HB.out.size (fun _ h => by cases h))
      refine wp_loop_rounds 1 ?_
      rw [rounds_succ]
      go_wp2_with (at_next; refine wpList_next_ranges _ rfl _ rfl 9 law9 R42 Value.string id invK9 (fun v _ _ => ⟨v, rfl⟩) b2 _ 0 (.map []) _ 0 rfl hrg4 (fun _ _ => ?_) (fun _ _ _ _ _ _ _ _ _ _ _ hlt _ _ _ => absurd hlt (Nat.not_lt_zero _)))
      have hb40 := HB4.out
      have HT4 := Aside0.mk (fun i (h : i < ts.length) => (⟨(hb40.cell (World.block_lt_of_cell? w _ (HT.out i h).1)).trans (HT.out i h).1, (hb40.cell (World.block_lt_of_cell? w _ (HT.out i h).2)).trans (HT.out i h).2⟩ : w4.cell? ⟨g0, i, none⟩ = some (.string ts[i].2) ∧ w4.cell? ⟨g1, i, none⟩ = some (.bool ts[i].1)))
      have HE4 := Aside0.mk (HE.out.kept hg4 (by simp))
      have HC4 := Aside0.mk ((hg4.cell_far ⟨w.heap.size + 1, 0, none⟩ (World.block_lt_of_cell? wr _ hc) (by simp)).trans hc)
      have HK4 : Aside0 (∀ p ∈ ts, Known w4 g met p.2) := Aside0.mk (fun p hp => by
        obtain ⟨k1, k2, k3⟩ := HK.out p hp
        obtain ⟨b', q1, _, q3⟩ := HGT.out p.2 _ k1 (HLF.out _)
        exact ⟨k2, k3, b', q1, q3.kept hg4 (by simp)⟩)
      clear hb40
      clear hleft hcnt
      go_loopw [18, 68] (fun v18 v68 wr => ∃ k : Nat, v68 = .int .i64 k ∧ k ≤ ts.length ∧ (k = 0 → v18 = .slice none 0 0) ∧ wr.ownsRow w4.heap.size 57 2 v18 k (flat (ts.take k)) ∧ Below w4.heap.size w4 wr) (fun _ v68 _ => ts.length - (intOf v68).toNat)
      case atStart => exact ⟨0, rfl, by omega, fun _ => rfl, World.ownsRow_nil _ _ _ _, Below.refl _ _⟩
      case round =>
        obtain ⟨k, rfl, hk, hn0, hO, hBr⟩ := hrel
        have HN0 := Aside0.mk hn0
        have HOr := Aside0.mk hO
        have HBr := Aside0.mk hBr
        clear hn0 hO hBr
        by_cases hk0 : k < ts.length
        · have d0 : decide ((k : Int) < (ts.length : Int)) = true := decide_eq_true (by omega)
          obtain ⟨x0, x1⟩ := HT4.out k hk0
          obtain ⟨p, hp⟩ : ∃ p, p = ts[k] := ⟨_, rfl⟩
          rw [← hp] at x0 x1
          have HP := Aside0.mk (show flat (ts.take (k + 1)) = flat (ts.take k) ++ [.bool p.1, .string p.2] by
            rw [hp, List.take_succ_eq_append_getElem hk0, flat_snoc])
          clear hp
          obtain ⟨want, t⟩ := p
          simp only at x0 x1
          have y0 := (HBr.out.cell (World.block_lt_of_cell? w4 _ x0)).trans x0
          have y1 := (HBr.out.cell (World.block_lt_of_cell? w4 _ x1)).trans x1
          clear x0 x1
          go_wp2_with (at_builtin; refine print_append_cells (w0 := w4) w4.heap.size rfl (.tmp 73) (.tmp 80) 55 57 (.agg #[.bool false, .string ⟨#[]⟩]) 2 24 rfl Try.underlying55 info57 rfl (by decide) (by decide) _ k (flat (ts.take k)) [.bool want, .string t] rfl rfl rfl (fun u hu => by
            rcases List.mem_cons.1 hu with h | h
            · subst h; rfl
            · rw [List.mem_singleton] at h; subst h; rfl) HOr.out HBr.out HBr.out.size (by omega) ?_; intro v1 w6 hO6 hB6 hg6 _)
          have HO6 := Aside0.mk hO6
          have HB6 := Aside0.mk hB6
          clear hO6 hB6 hg6
          go_roundw
          case rel => exact ⟨k + 1, by go_num, by omega, fun h => by omega, by rw [HP.out]; exact HO6.out, HB6.out⟩
          case measure => simp [intOf]; omega
        · obtain rfl : k = ts.length := by omega
          have d0 : decide ((ts.length : Int) < (ts.length : Int)) = false := decide_eq_false (by omega)
          have hC6 := (HBr.out.cell (World.block_lt_of_cell? w4 _ HC4.out)).trans HC4.out
          have HE6 := Aside0.mk (mapE_below HE4.out HBr.out)
          have HC6 := Aside0.mk hC6
          have HB6 := Aside0.mk (below_then HB4.out HB4.out.size HBr.out)
          have HK6 : Aside0 (∀ p ∈ ts, Known wr g met p.2) := Aside0.mk (fun p hp => known_below (HK4.out p hp) HBr.out)
          clear hC6
          by_cases hz : ts.length = 0
          · have e1 := HN0.out hz
            have e2 : ts = [] := List.length_eq_zero_iff.1 hz
            subst e1 e2
            clear hz
            go_wp2_with fail
            have hb7 := HB6.out.alloc HB6.out.size (.cells #[.map none] 62)
            (with_reducible refine (active_none _ _ _).mono ?_)
            rintro e w8 ⟨rfl, b8⟩
            have HB8 := Aside0.mk (below_then hb7 hb7.size b8)
            clear b8 hb7
            go_wp2_with fail
            go_ret2
            exact ⟨rfl, HB8.out⟩
          · obtain ⟨g6, c6, rfl, _, hlt6⟩ := HOr.out.form (by omega)
            have HQ6 := Aside0.mk (fun i (h : i < ts.length) => (⟨row_at HOr.out (i * 2) (by rw [List.take_length]; exact (flat_get ts i h).1), row_at HOr.out (i * 2 + 1) (by rw [List.take_length]; exact (flat_get ts i h).2)⟩ : wr.cell? ⟨g6, i * 2, none⟩ = some (.bool ts[i].1) ∧ wr.cell? ⟨g6, i * 2 + 1, none⟩ = some (.string ts[i].2)))
            clear hlt6 hz
            go_wp2_with fail
            have hb7 := HB6.out.alloc HB6.out.size (.cells #[.map none] 62)
            have ha7 : Below wr.heap.size wr (wr.alloc (.cells #[.map none] 62)) := (Below.refl _ wr).alloc (Nat.le_refl _) _
            (with_reducible refine (active_all (w.heap.size + 1) w.heap.size n g met _ g6 c6 ts _ ((ha7.cell (World.block_lt_of_cell? wr _ HC6.out)).trans HC6.out) (HE6.out.kept (World.grownBy_alloc wr _ none) (by simp)) (fun p hp => known_below (HK6.out p hp) ha7) (by omega) (fun i h => ⟨(ha7.cell (World.block_lt_of_cell? wr _ (HQ6.out i h).1)).trans (HQ6.out i h).1, (ha7.cell (World.block_lt_of_cell? wr _ (HQ6.out i h).2)).trans (HQ6.out i h).2⟩)).mono ?_)
            rintro e w8 ⟨rfl, b8⟩
            have HB8 := Aside0.mk (below_then hb7 hb7.size b8)
            clear b8 hb7 ha7
            go_wp2_with fail
            go_ret2
            exact ⟨rfl, HB8.out⟩
    · have hr := Aside0.mk HR.out
      have hrlt := HRG.out.lt
      have hr1 : r < w1.heap.size := by rw [HS1.out]; exact hrlt
      have hz1 : (w1.alloc (.map #[] 0)).heap.size = w1.heap.size + 1 := by simp
      have s2 := hg2.size
      have hrgF : w3.ranges Try.prog 9 (plainElem Try.prog 4) b1 r n1 D1 (fun z => left z && !z.sameKey kl) cnt1 :=
        ((hrg1.alloc (.map #[] 0)).kept hg2 (by simp; omega) (by simp; omega)).kept hg3 (by simp; omega) (by have := HR.out; simp; omega)
      have hcF : w3.cell? ⟨w.heap.size + 1, 0, none⟩ = some (.map (some w.heap.size)) :=
        (hg3.cell_far ⟨w.heap.size + 1, 0, none⟩ (by have := HR.out; show w.heap.size + 1 < w2.heap.size; omega) (by simp)).trans
          ((hg2.cell_far ⟨w.heap.size + 1, 0, none⟩ (by have := HR.out; show w.heap.size + 1 < (w1.alloc (.map #[] 0)).heap.size; omega) (by have := HR.out; simp; omega)).trans
            ((World.cell?_alloc_past _ _ _ (by have := HR.out; omega)).trans hc1))
      have h2F : w3.ownsMap Try.prog 9 R42 b2 0 (.map []) := (((H2r.out.kept hg1 (by have := HR.out; simp; omega)).alloc _).kept hg2 (by simp; omega)).kept hg3 (by simp; omega)
      have hB1 := HB.out.grown hg1 HB.out.size (fun k h => by have := HR.out; injection h with h; omega)
      have hBF : Below w.heap.size w w3 := (((hB1.alloc hB1.size (.map #[] 0)).grown hg2 (by omega) (fun k h => by injection h with h; omega))).grown hg3 (by omega) (fun k h => by injection h with h; omega)
      have hfx : f x = some c := by
        have e1 : D1.atKey (ky x) .nil = ((f x).map fun m => DataW.lit (H := Unit) (Lit.bool m)).getD .nil := (HS.out x).1 .nil
        rw [← (key_of hkx).2, hat] at e1
        have e2 := plainElem_bool (H := Unit) Try.underlying4 c
        rw [hRc] at e2
        injection e2 with e2
        rw [e2] at e1
        cases hfx : f x with
        | none => rw [hfx] at e1; cases e1
        | some m => rw [hfx] at e1; injection e1 with e1; injection e1 with e1; rw [e1]
      have HG5 : Aside0 (∀ s m, f s = some m → (left (ky s) && !(ky s).sameKey kl) = false → ∃ b', (if s = x then some (false, w1.heap.size) else g s) = some (false, b') ∧ r < b' ∧ MapB w3 b' 1 (fun y => if y = ByteArray.empty then some m else none)) := Aside0.mk (fun s m h1 h2 => by
        by_cases e : s = x
        · subst e
          rw [hfx] at h1
          injection h1 with h1
          subst h1
          rw [if_pos rfl]
          exact ⟨_, rfl, hr1, hM2.kept hg3 (by simp; omega)⟩
        · rw [if_neg e]
          have hns : (ky s).sameKey kl = false := by
            rw [(key_of hkx).2]
            exact sameKey_ne (fun h => e (ky_inj h))
          rw [hns] at h2
          obtain ⟨b', q1, q2, q3⟩ := HGT.out s m h1 (by simpa using h2)
          have q4 := q3.lt
          have q5 := HS1.out
          exact ⟨b', q1, q2, (((q3.kept hg1 (by simp; omega)).kept (World.grownBy_alloc w1 (.map #[] 0) none) (by simp)).kept hg2 (by simp; omega)).kept hg3 (by have := HR.out; simp; omega)⟩)
      have HF1 := Aside0.mk hrgF
      have HF2 := Aside0.mk hcF
      have HF3 := Aside0.mk h2F
      have HF4 := Aside0.mk hBF
      have HF5 := Aside0.mk hE3
      clear hrgF hcF h2F hBF hB1 hz1 hE3
      go_roundw
      case rel => exact ⟨_, cnt1, n + 1, _, HF1.out, HF5.out, HG5.out, by omega, HF2.out, HF3.out, HF4.out⟩
      case measure => rw [HF1.out.left_eq, HRG.out.left_eq]; exact hlt

end Go.Proofs.Ytkibblabjgoddaa.Tab

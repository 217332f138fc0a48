/- The walk of ZZConditionsActive at one condition with a suffix. -/
import Derived.Test.YtkibblabjgoddaaPreAct
namespace Go.Proofs.Ytkibblabjgoddaa.Tab
open Go.RowKit Go.Proofs.YtkibblabjgoddaaW.PrintWords Go.Maps Go.WideMaps Go.Proofs.Ytkibblabjgoddaa.PFnConditions

open Classical in
/-- a map's element that is this value and no other -/
noncomputable def RV (V v : Value) : Option (DataW Unit × List MemPlace) := if v = V then some (.lit (.bool true), []) else none

theorem RV_self (V : Value) : RV V V = some (.lit (.bool true), []) := by simp [RV]
theorem RV_inv (V : Value) : ∀ v y, RV V v = some y → ∃ _c : Unit, v = (fun _ : Unit => V) _c := by
  intro v y h
  unfold RV at h
  split at h
  · exact ⟨(), by assumption⟩
  · cases h

/-- block b is a map that holds the value V at the key t alone -/
def MapV (w : World) (b n : Nat) (V : Value) (t : ByteArray) : Prop :=
  ∃ D : DataW Unit, w.ownsMap Try.prog 9 (RV V) b n D ∧ Says D (fun x => if x = t then some (.lit (.bool true)) else none)

theorem MapV.store {w : World} {b n : Nat} {V : Value} (h : w.ownsMap Try.prog 9 (RV V) b n (.map [])) (hn : n ≤ 281474976710656) (s : ByteArray) (hs : s.size ≤ maxLen) :
    ∃ w', (Instr.mapUpdate 42 (.map (some b)) (.string s) V).run Try.prog w = .ok () w' ∧ MapV w' b (n + 1) V s ∧ w.grownBy w' (some b) := by
  obtain ⟨w', hrun, hown, hg⟩ := h.update law9 Try.underlying42 (by unfold maxLen; omega) (keyOf_string_mk Try.underlying9 (s := s) hs) (RV_self V)
  exact ⟨w', hrun, ⟨_, hown, says_put says_made h.isMap s _⟩, hg⟩

set_option maxHeartbeats 8000000 in
set_option maxRecDepth 100000 in
theorem zz_pre (g0 g1 c0 c1 b1 b2 n2 cs : Nat) (A : Option Addr) (ss : List ByteArray) (t s full : ByteArray) (want : Bool) (w : World) (h1 : MapB w b1 0 (fun _ => none)) (h2 : MapV w b2 n2 (.slice A ss.length cs) t)
    (hss : ReadsOf Value.string ByteArray.empty w A ss.length ss) (hl : ss.length ≤ 4294967296) (hsz : ∀ x ∈ ss, x.size ≤ 281474976710656) (hts : t.size ≤ 281474976710656) (hs : s.size ≤ 281474976710656)
    (hcut : scriptparse_zzCut.f (t.size + 1) full ⟨#[58]⟩ = some (t, s, true)) (ht0 : w.cell? ⟨g0, 0, none⟩ = some (.string full)) (ht1 : w.cell? ⟨g1, 0, none⟩ = some (.bool want)) :
    Calls Try.prog 13 #[.slice (some ⟨g0, 0, none⟩) 1 c0, .slice (some ⟨g1, 0, none⟩) 1 c1, .map (some b1), .map (some b2)] w fun e w' => e = .returned (.tuple #[.bool ((ss.any fun x => decide (x = s)) == want), .nilIface]) ∧ Below w.heap.size w w' := by
  have hmm := @run_makeMap Try.prog
  obtain ⟨D1, hown, hsay⟩ := h1
  obtain ⟨D2, hown2, hsay2⟩ := h2
  have HO := Aside0.mk hown
  have HS := Aside0.mk hsay
  have HO2 := Aside0.mk hown2
  have HS2 := Aside0.mk hsay2
  have HSS := Aside0.mk hss
  have HSZ := Aside0.mk hsz
  have HCUT := Aside0.mk hcut
  have HT0 := Aside0.mk ht0
  have HT1 := Aside0.mk ht1
  clear hown hsay hown2 hsay2 hss hsz hcut ht0 ht1
  go_enter Try.func13, Try.ntmps13
  go_wp2_with (first | (at_range; refine wpList_range_own _ rfl _ 41 rfl 9 4 law9 Try.underlying41 _ b1 0 D1 rfl ((HO.out.alloc _).alloc _) ?_; intro w0 hrg0 hg0 hs0))
  obtain ⟨r, hr⟩ : ∃ r, r = ((w.alloc (.map #[] 0)).alloc (.cells #[.map (some w.heap.size)] 50)).heap.size := ⟨_, rfl⟩
  have hr2 : r = w.heap.size + 2 := by rw [hr]; simp
  have hE0 : MapE w0 w.heap.size 0 (fun _ => none) := ((MapE.made w).kept (World.grownBy_alloc _ _ none) (by simp)).kept hg0 (by simp)
  have hc0 : w0.cell? ⟨w.heap.size + 1, 0, none⟩ = some (.map (some w.heap.size)) := by
    have hz : (w.alloc (.map #[] 0)).heap.size = w.heap.size + 1 := by simp
    have h := World.cell?_alloc_at (w := w.alloc (.map #[] 0)) #[.map (some w.heap.size)] 50 (w.heap.size + 1) 0 hz.symm
    exact (hg0.cell_far ⟨w.heap.size + 1, 0, none⟩ (by simp) (by simp)).trans h
  have hBa : Below w.heap.size w (w.alloc (.map #[] 0)) := (Below.refl _ w).alloc (Nat.le_refl _) _
  have hBb := hBa.alloc hBa.size (.cells #[.map (some w.heap.size)] 50)
  have hB0 : Below w.heap.size w w0 := hBb.grown hg0 hBb.size (fun _ h => by cases h)
  have h20 : w0.ownsMap Try.prog 9 (RV (.slice A ss.length cs)) b2 n2 D2 := ((HO2.out.alloc _).alloc _).kept hg0 (by simp)
  rw [← hr] at hrg0
  rw [show w.heap.size + 1 + 1 = r by omega]
  have hsD := size_le HO.out
  have HE0 := Aside0.mk hE0
  have HC0 := Aside0.mk hc0
  have HB0 := Aside0.mk hB0
  have H20 := Aside0.mk h20
  have HR0 := Aside0.mk hrg0
  have HR := Aside0.mk hr2
  clear hE0 hc0 hBa hBb hB0 h20 hrg0 hr2 hr hg0 hs0
  refine wp_loop_rounds 1 ?_
  rw [rounds_succ]
  go_wp2_with (first
    | (at_next; refine wpList_next_ranges _ rfl _ rfl 9 law9 (plainElem Try.prog 4) Value.string Value.bool invK9 invV4 b1 r 0 D1 _ _ rfl HR0.out (fun _ _ => ?_) (fun _ _ _ _ _ _ _ _ _ _ _ hlt _ _ _ => absurd hlt (by omega)))
    | (at_range; refine wpList_range_own _ rfl _ 42 rfl 9 29 law9 Try.underlying42 (RV (.slice A ss.length cs)) b2 n2 D2 rfl H20.out ?_; intro w4 hrg4 hg4 hs4))
  go_frame
  have hrl0 : r < w0.heap.size := HR0.out.lt
  obtain ⟨r4, hr4⟩ : ∃ r4, r4 = w0.heap.size := ⟨_, rfl⟩
  have hE4 : MapE w4 w.heap.size 0 (fun _ => none) := HE0.out.kept hg4 (by simp)
  have hc4 : w4.cell? ⟨w.heap.size + 1, 0, none⟩ = some (.map (some w.heap.size)) := (hg4.cell_far ⟨w.heap.size + 1, 0, none⟩ (World.block_lt_of_cell? w0 _ HC0.out) (by simp)).trans HC0.out
  have hB4 := HB0.out.grown hg4 HB0.out.size (fun _ h => by cases h)
  have HE4 := Aside0.mk hE4
  have HC4 := Aside0.mk hc4
  have HB4 := Aside0.mk hB4
  have HR4 := Aside0.mk hrg4
  have HS4 := Aside0.mk hs4
  clear hE4 hc4 hB4 hrg4 hg4 hs4
  refine wp_loop_rounds 2 ?_
  rw [rounds_succ]
  go_wp2_with (at_next; refine wpList_next_ranges _ rfl _ rfl 9 law9 (RV (.slice A ss.length cs)) Value.string (fun _ : Unit => .slice A ss.length cs) invK9 (RV_inv _) b2 w0.heap.size n2 D2 _ _ rfl HR4.out (fun _ hleft => absurd (hleft (ky t)) (by have h := (HS2.out t).2; simp at h; simp [h])) (fun x c kl y w5 cnt5 hkx hlx hRc hat hrg5 hlt5 hg5 hs5 hen => ?_))
  have hkt : kl = ky x := (key_of hkx).2
  have hxt : x = t := by
    have h : has D2 (ky x) = (if x = t then some (DataW.lit (H := Unit) (Lit.bool true)) else none).isSome := (HS2.out x).2
    rw [← hkt, hlx] at h
    by_cases e : x = t
    · exact e
    · rw [if_neg e] at h; cases h
  subst hxt
  have hrlt : w0.heap.size < w4.heap.size := by have := HR4.out.lt; exact this
  have hwz : w.heap.size + 1 < w0.heap.size := World.block_lt_of_cell? w0 _ HC0.out
  have hb2l : b2 < w.heap.size := HO2.out.lt
  have hM0 : MapB (w5.alloc (.map #[] 0)) w4.heap.size 0 (fun _ => none) := by rw [← hs5]; exact MapB.made w5
  have hE5 : MapE w5 w.heap.size 0 (fun _ => none) := HE4.out.kept hg5 (by simp; omega)
  have hc5 : w5.cell? ⟨w.heap.size + 1, 0, none⟩ = some (.map (some w.heap.size)) := (hg5.cell_far ⟨w.heap.size + 1, 0, none⟩ (World.block_lt_of_cell? w4 _ HC4.out) (by simp; omega)).trans HC4.out
  have hB5 := HB4.out.grown hg5 HB4.out.size (fun k h => by injection h with h; omega)
  have hB6 := hB5.alloc hB5.size (.map #[] 0)
  have HX : Aside0 (∀ z : ByteArray, (has D2 (ky z) && !(ky z).sameKey kl) = false) := Aside0.mk (fun z => by
    have h : has D2 (ky z) = (if z = x then some (DataW.lit (H := Unit) (Lit.bool true)) else none).isSome := (HS2.out z).2
    rw [h, hkt]
    by_cases e : z = x
    · subst e; rw [WideAt.sameKey_self (by simp [WideAt.IsKeyLit])]; simp
    · rw [if_neg e]; rfl)
  have HE5 := Aside0.mk hE5
  have HC5 := Aside0.mk hc5
  have HB5 := Aside0.mk hB5
  have HB6 := Aside0.mk hB6
  have HR5 := Aside0.mk hrg5
  have HM0 := Aside0.mk hM0
  have HS5 := Aside0.mk hs5
  have HKX := Aside0.mk (key_of hkx).1
  clear hE5 hc5 hB5 hB6 hrg5 hM0 hg5 hen hat hRc hlx hkt hkx hs5 hlt5 hr4
  have hw56 : w4.heap.size = w5.heap.size := HS5.out.symm
  have HW56 := Aside0.mk hw56
  clear hw56
  go_loopw [51] (fun v51 wi => ∃ (k : Nat) (f : ByteArray → Option Bool), v51 = .int .i64 k ∧ k ≤ ss.length ∧ MapB wi w4.heap.size k f ∧ (∀ y, (f y).getD false = ((ss.take k).any fun z => decide (z = y))) ∧ (w5.alloc (.map #[] 0)).grownBy wi (some w4.heap.size)) (fun v51 _ => ss.length - (intOf v51).toNat)
  case atStart => exact ⟨0, _, rfl, by omega, HM0.out, fun y => rfl, World.grownBy.refl _ _⟩
  case round =>
    obtain ⟨k, f, rfl, hk, hM, hf, hg⟩ := hrel
    have HM := Aside0.mk hM
    have HF := Aside0.mk hf
    have HG := Aside0.mk hg
    have HBi := Aside0.mk (HB6.out.grown hg HB6.out.size (fun j h => by injection h with h; omega))
    clear hM hf hg
    by_cases hk0 : k < ss.length
    · have d0 : decide ((k : Int) < (ss.length : Int)) = true := decide_eq_true (by omega)
      obtain ⟨ad, e0, hx0⟩ := HSS.out.at_ (k : Int) (by omega) (by omega)
      cases e0
      obtain ⟨y, hy⟩ : ∃ y, y = rdOf ByteArray.empty ss (k : Int) := ⟨_, rfl⟩
      have hye : y = ss[k] := by rw [hy]; simp [rdOf, List.getD_eq_getElem?_getD, hk0]
      rw [← hy] at hx0
      simp only [Int.toNat_natCast] at hx0
      replace hx0 := pw_cell_below HBi.out hx0
      have hys : y.size ≤ 281474976710656 := by rw [hye]; exact HSZ.out _ (List.getElem_mem hk0)
      obtain ⟨w7, hrun7, hM7, hg7⟩ := HM.out.store (by omega) y true hys
      have HM7 := Aside0.mk hM7
      have HG7 := Aside0.mk (HG.out.trans hg7)
      have HF7 : Aside0 (∀ q, ((if q = y then some true else f q).getD false) = ((ss.take (k + 1)).any fun z => decide (z = q))) := Aside0.mk (fun q => by
        rw [List.take_succ_eq_append_getElem hk0, List.any_append, ← HF.out q, ← hye]
        by_cases e : q = y
        · subst e; simp
        · have e2 : ¬ y = q := fun h => e h.symm
          simp [e, e2])
      clear hM7 hg7 hy hye
      go_wp2_with fail
      go_roundw
      case rel => exact ⟨k + 1, _, by go_num, by omega, HM7.out, HF7.out, HG7.out⟩
      case measure => simp [intOf]; omega
    · obtain rfl : k = ss.length := by omega
      have d0 : decide ((ss.length : Int) < (ss.length : Int)) = false := decide_eq_false (by omega)
      have hEi : MapE wr w.heap.size 0 (fun _ => none) := (HE5.out.kept (World.grownBy_alloc w5 (.map #[] 0) none) (by simp)).kept HG.out (by simp; omega)
      obtain ⟨w8, hrun8, hE8, hg8⟩ := hEi.store (by omega) x true w4.heap.size HKX.out
      have hb4l := HC4.out
      have hR8 : w8.ranges Try.prog 9 (RV (.slice A ss.length cs)) b2 w0.heap.size n2 D2 (fun z => has D2 z && !z.sameKey kl) cnt5 :=
        ((HR5.out.alloc (.map #[] 0)).kept HG.out (by simp; omega) (by simp; omega)).kept hg8 (by simp; omega) (by simp; omega)
      have hcr : wr.cell? ⟨w.heap.size + 1, 0, none⟩ = some (.map (some w.heap.size)) :=
          ((HG.out.cell_far ⟨w.heap.size + 1, 0, none⟩ (by have := HW56.out; show w.heap.size + 1 < (w5.alloc (.map #[] 0)).heap.size; simp; omega) (by simp; omega)).trans ((World.cell?_alloc_past _ _ _ (by have := HW56.out; omega)).trans HC5.out))
      have hc8 : w8.cell? ⟨w.heap.size + 1, 0, none⟩ = some (.map (some w.heap.size)) :=
        (hg8.cell_far ⟨w.heap.size + 1, 0, none⟩ (World.block_lt_of_cell? wr _ hcr) (by simp)).trans hcr
      have hM8 : MapB w8 w4.heap.size ss.length f := HM.out.kept hg8 (by simp; omega)
      have hB8 := HBi.out.grown hg8 HBi.out.size (fun j h => by injection h with h; omega)
      have HR8 := Aside0.mk hR8
      have HC8 := Aside0.mk hc8
      have HM8 := Aside0.mk hM8
      have HB8 := Aside0.mk hB8
      have HE8 := Aside0.mk hE8
      clear hR8 hc8 hM8 hB8 hE8 hEi hg8
      go_wp2_with fail
      clear hcr hrun8
      rw [rounds_succ]
      go_wp2_with (at_next; refine wpList_next_ranges _ rfl _ rfl 9 law9 (RV (.slice A ss.length cs)) Value.string (fun _ : Unit => .slice A ss.length cs) invK9 (RV_inv _) b2 w0.heap.size n2 D2 _ _ rfl HR8.out (fun _ _ => ?_) (fun z c kl2 y w9 cnt9 hkx2 hlx2 _ _ _ _ _ _ _ => absurd hlx2 (by rw [(key_of hkx2).2, HX.out z]; simp)))
      have hT8 : w8.cell? ⟨g0, 0, none⟩ = some (.string full) := (HB8.out.cell (World.block_lt_of_cell? w _ HT0.out)).trans HT0.out
      have hW8 : w8.cell? ⟨g1, 0, none⟩ = some (.bool want) := (HB8.out.cell (World.block_lt_of_cell? w _ HT1.out)).trans HT1.out
      have HB88 := Aside0.mk (Below.refl w8.heap.size w8)
      refine wp_loop_rounds 2 ?_
      rw [rounds_succ]
      go_wp2_with (at_builtin; refine print_append_cells (w0 := w8) w8.heap.size rfl (.tmp 73) (.tmp 80) 55 57 (.agg #[.bool false, .string ⟨#[]⟩]) 2 24 rfl Try.underlying55 info57 rfl (by decide) (by decide) (.slice none 0 0) 0 [] [.bool want, .string full] rfl rfl rfl (fun u hu => by
        rcases List.mem_cons.1 hu with h | h
        · subst h; rfl
        · rw [List.mem_singleton] at h; subst h; rfl) (World.ownsRow_nil _ _ _ _) HB88.out HB88.out.size (by decide) ?_; intro v1 w10 hO10 hB10 hg10 _; obtain ⟨g10, c10, rfl, _, hlt10⟩ := hO10.form (by decide))
      have hq0 : w10.cell? ⟨g10, 0, none⟩ = some (.bool want) := row_at hO10 0 rfl
      have hq1 : w10.cell? ⟨g10, 1, none⟩ = some (.string full) := row_at hO10 1 rfl
      have HQ0 := Aside0.mk hq0
      have HQ1 := Aside0.mk hq1
      have HB10 := Aside0.mk hB10
      have HE10 := Aside0.mk (mapE_below HE8.out hB10)
      have HM10 := Aside0.mk (mapB_below HM8.out hB10)
      have HC10 := Aside0.mk ((hB10.cell (World.block_lt_of_cell? w8 _ HC8.out)).trans HC8.out)
      clear hq0 hq1 hB10 hO10 hg10 hT8 hW8
      rw [rounds_succ]
      go_wp2_with fail
      have hb7 := HB10.out.alloc HB10.out.size (.cells #[.map none] 62)
      have ha7 : Below w10.heap.size w10 (w10.alloc (.cells #[.map none] 62)) := (Below.refl _ w10).alloc (Nat.le_refl _) _
      (with_reducible refine (active_pre (w.heap.size + 1) w.heap.size _ _ _ g10 c10 x s full want w4.heap.size ss.length f _ ((ha7.cell (World.block_lt_of_cell? w10 _ HC10.out)).trans HC10.out) (HE10.out.kept (World.grownBy_alloc w10 _ none) (by simp)) (if_pos rfl) (mapB_below HM10.out ha7) hts hs HCUT.out ((ha7.cell (World.block_lt_of_cell? w10 _ HQ0.out)).trans HQ0.out) ((ha7.cell (World.block_lt_of_cell? w10 _ HQ1.out)).trans HQ1.out)).mono ?_)
      rintro e w11 ⟨rfl, b11⟩
      have HB11 := Aside0.mk (below_then HB8.out HB8.out.size (below_then hb7 hb7.size b11))
      have HFF : Aside0 ((f s).getD false = (ss.any fun x => decide (x = s))) := Aside0.mk (by rw [HF.out s, List.take_length])
      clear b11 hb7 ha7
      obtain ⟨m, hm⟩ : ∃ m, m = ((f s).getD false == want) := ⟨_, rfl⟩
      rw [← hm]
      have HMM := Aside0.mk hm
      clear hm
      go_wp2_with fail
      go_ret2
      exact ⟨by rw [← HFF.out, ← HMM.out]; rfl, HB11.out⟩

end Go.Proofs.Ytkibblabjgoddaa.Tab

/- The walks of impl.Conditions without conditions, and of the law FnConditionsNone. -/
import Derived.Test.YtkibblabjgoddaaNone
import Derived.BigQuiet
namespace Go.Proofs.Ytkibblabjgoddaa.Tab
open Go.RowKit Go.Proofs.YtkibblabjgoddaaW.PrintWords Go.Maps Go.WideMaps Go.Proofs.Ytkibblabjgoddaa.PFnConditions

set_option maxHeartbeats 8000000 in
set_option maxRecDepth 100000 in
theorem impl_none (A : Option Addr) (c0 : Nat) (l : List S27) (w : World) (hr : Kd.C k27 w A l.length l) (hl : l.length ≤ 140737488355328) (hs : ∀ p ∈ l, p.f0.size ≤ 281474976710656) :
    Calls Try.prog 9 #[.slice none 0 0, .slice none 0 0, .slice A l.length c0, .slice none 0 0] w fun e w' => e = .returned (.tuple #[.bool true, .bool true]) ∧ Below w.heap.size w w' := by
  have hmm := @run_makeMap Try.prog
  have hu27 := Try.underlying27
  have HR := Aside0.mk hr
  have HS := Aside0.mk hs
  clear hr hs
  have hz1 : (w.alloc (.map #[] 0)).heap.size = w.heap.size + 1 := by simp
  have hM0 : MapB ((w.alloc (.map #[] 0)).alloc (.map #[] 0)) w.heap.size 0 (fun _ => none) := (MapB.made w).kept (World.grownBy_alloc _ _ none) (by simp)
  have h20 : ((w.alloc (.map #[] 0)).alloc (.map #[] 0)).ownsMap Try.prog 9 R42 (w.heap.size + 1) 0 (.map []) := by
    have := World.ownsMap_made (H := Unit) (w.alloc (.map #[] 0)) Try.prog 9 R42
    rwa [hz1] at this
  have hBa : Below w.heap.size w (w.alloc (.map #[] 0)) := (Below.refl _ w).alloc (Nat.le_refl _) _
  have hBb := hBa.alloc hBa.size (.map #[] 0)
  have HM0 := Aside0.mk hM0
  have H20 := Aside0.mk h20
  have HB0 := Aside0.mk hBb
  clear hM0 h20 hBa hBb hz1
  go_enter Try.func9, Try.ntmps9
  go_wp2_with fail
  go_loopw [22] (fun v22 wr => ∃ (k : Nat) (f : ByteArray → Option Bool), v22 = .int .i64 k ∧ k ≤ l.length ∧ MapB wr w.heap.size k f ∧ wr.ownsMap Try.prog 9 R42 (w.heap.size + 1) 0 (.map []) ∧ Below w.heap.size w wr) (fun v22 _ => l.length - (intOf v22).toNat)
  case atStart => exact ⟨0, _, rfl, by omega, HM0.out, H20.out, HB0.out⟩
  case round =>
    obtain ⟨k, f, rfl, hk, hM, h2, hB⟩ := hrel
    have HM := Aside0.mk hM
    have H2 := Aside0.mk h2
    have HB := Aside0.mk hB
    clear hM h2 hB
    by_cases hk0 : k < l.length
    · have d0 : decide ((k : Int) < (l.length : Int)) = true := decide_eq_true (by omega)
      obtain ⟨ad, e0, hx0, hx1⟩ := at_T27 HR.out (k : Int) (by omega) (by omega)
      have hps : (rd_T27 l (k : Int)).f0.size ≤ 281474976710656 := by
        have e : rd_T27 l (k : Int) = l[k] := by simp [rd_T27, List.getD_eq_getElem?_getD, hk0]
        rw [e]; exact HS.out _ (List.getElem_mem hk0)
      obtain ⟨p, hp⟩ : ∃ p, p = rd_T27 l (k : Int) := ⟨_, rfl⟩
      rw [← hp] at hx0 hx1 hps
      clear hp
      cases e0
      replace hx0 := (HB.out.cell (World.block_lt_of_cell? w _ hx0)).trans hx0
      replace hx1 := (HB.out.cell (World.block_lt_of_cell? w _ hx1)).trans hx1
      obtain ⟨t, m⟩ := p
      simp only [Int.toNat_natCast] at hx0 hx1
      have hMa := HM.out.kept (World.grownBy_alloc wr (.cells #[.string t, .bool m] 27) none) (by simp)
      obtain ⟨w2, hrun, hM2, hg2⟩ := hMa.store (by omega) t m hps
      have hBa := HB.out.alloc HB.out.size (.cells #[.string t, .bool m] 27)
      have HB2 := Aside0.mk (hBa.grown hg2 hBa.size (fun j h => by injection h with h; omega))
      have H22 := Aside0.mk ((H2.out.alloc (.cells #[.string t, .bool m] 27)).kept hg2 (by simp))
      have HM2 := Aside0.mk hM2
      clear hMa hM2 hBa
      go_wp2_with fail
      go_roundw
      case rel => exact ⟨k + 1, _, by go_num, by omega, HM2.out, H22.out, HB2.out⟩
      case measure => simp [intOf]; omega
    · obtain rfl : k = l.length := by omega
      have d0 : decide ((l.length : Int) < (l.length : Int)) = false := decide_eq_false (by omega)
      go_wp2_with fail
      refine wp_loop_rounds 1 ?_
      rw [rounds_succ]
      go_wp2_with fail
      have hBa := HB.out.alloc HB.out.size (.cells #[] 9)
      have hBb := hBa.alloc hBa.size (.cells #[] 4)
      have hMb := (HM.out.kept (World.grownBy_alloc wr (.cells #[] 9) none) (by simp)).kept (World.grownBy_alloc _ (.cells #[] 4) none) (by simp)
      have h2b := (H2.out.alloc (.cells #[] 9)).alloc (.cells #[] 4)
      (with_reducible refine (zz_none _ _ _ _ w.heap.size (w.heap.size + 1) l.length f _ hMb hl h2b).mono ?_)
      rintro e w5 ⟨rfl, b5⟩
      have HB5 := Aside0.mk (below_then hBb hBb.size b5)
      clear b5 hBa hBb hMb h2b
      go_wp2_with fail
      go_region
      go_wp2_with fail
      go_ret2
      exact ⟨rfl, pw_below_drewN HB5.out 1⟩

end Go.Proofs.Ytkibblabjgoddaa.Tab

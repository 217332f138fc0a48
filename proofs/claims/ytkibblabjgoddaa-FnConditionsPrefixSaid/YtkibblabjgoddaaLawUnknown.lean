/- The walk of the law FnConditionsUnknown. -/
import Derived.Test.YtkibblabjgoddaaCondOne
namespace Go.Proofs.Ytkibblabjgoddaa.Tab
open Go.RowKit Go.Proofs.YtkibblabjgoddaaW.PrintWords Go.Maps Go.WideMaps Go.Proofs.Ytkibblabjgoddaa.PFnConditions

theorem lit_s (W : World) (s : ByteArray) : Rds (W.alloc (.cells #[.string s] 9)) W.heap.size s := by
  obtain ⟨A, c2, he, _, hr1⟩ := own_reads_of_le (d := ByteArray.empty) (own_lit_of (enc := Value.string) W W.heap.size 9 [s] (Nat.le_refl _) (by simp))
  injection he with he1 he2
  subst he1
  exact hr1

theorem lit_b (W : World) : Rdb (W.alloc (.cells #[.bool true] 4)) W.heap.size := by
  obtain ⟨A, c2, he, _, hr1⟩ := own_reads_of_le (d := false) (own_lit_of (enc := Value.bool) W W.heap.size 4 [true] (Nat.le_refl _) (by simp))
  injection he with he1 he2
  subst he1
  exact hr1

set_option maxHeartbeats 8000000 in
set_option maxRecDepth 100000 in
theorem walk_unknown (tg : ByteArray) (A : Option Addr) (c0 : Nat) (l : List S27) (w : World) (hr : Kd.C k27 w A l.length l) (hc : l.length ≤ c0) : Calls Try.prog 6 #[.string tg, .slice A l.length c0] w fun e w' => e = .returned (.bool true) ∧ Below w.heap.size w w' := by
  by_cases ht : tg.size ≤ 2147483647
  · have dt : decide ((tg.size : Int) > 2147483647) = false := decide_eq_false (by omega)
    obtain ⟨b, hb, hbt⟩ := fits9_some l
    obtain ⟨v, hv, hvt⟩ := cond_some tg (by omega)
    have hu27 := Try.underlying27
    have HR := Aside0.mk hr
    have HB9 := Aside0.mk hb
    have HT := Aside0.mk hbt
    have HV := Aside0.mk hv
    have HVT := Aside0.mk hvt
    clear hr hb hbt hv hvt
    go_enter Try.func6, Try.ntmps6
    go_wp2_with fail
    (with_reducible refine (laws_zzFits9.calls _ A c0 l b _ HR.out hc HB9.out).mono ?_)
    rintro e wa ⟨rfl, ba⟩
    have HBa := Aside0.mk ba
    have HRa := Aside0.mk (Kd.C_below HR.out ba)
    clear ba HR
    cases b with
    | false =>
      go_wp2_with fail
      go_ret
      exact ⟨rfl, HBa.out⟩
    | true =>
      obtain ⟨hl, hs⟩ := HT.out rfl
      have HS := Aside0.mk (fun p (hp : p ∈ l) => Nat.le_trans (hs p hp) (show 2147483647 ≤ 281474976710656 by omega))
      clear hs HT
      go_wp2_with fail
      (with_reducible refine (spec_ScCond.calls _ tg v _ HV.out).mono ?_)
      rintro e wb ⟨rfl, hdb⟩
      have HBb := Aside0.mk (below_then HBa.out HBa.out.size hdb.below)
      have HRb := Aside0.mk (Kd.C_below HRa.out hdb.below)
      clear hdb HRa HBa
      cases v with
      | false =>
        go_wp2_with fail
        go_ret
        exact ⟨rfl, HBb.out⟩
      | true =>
        have HNO := Aside0.mk (HVT.out rfl)
        go_wp2_with fail
        go_loopw [24] (fun v24 wr => ∃ k : Nat, v24 = .int .i64 k ∧ k ≤ l.length ∧ (∀ i, (h : i < l.length) → i < k → l[i].f0 ≠ tg) ∧ Below wb.heap.size wb wr) (fun v24 _ => l.length - (intOf v24).toNat)
        case atStart => exact ⟨0, rfl, by omega, fun i _ h => by omega, Below.refl _ _⟩
        case round =>
          obtain ⟨k, rfl, hk, hd, hB⟩ := hrel
          have HD := Aside0.mk hd
          have HB := Aside0.mk hB
          have HRo := Aside0.mk (Kd.C_below HRb.out hB)
          clear hB hd
          by_cases hk0 : k < l.length
          · have d0 : decide ((k : Int) < (l.length : Int)) = true := decide_eq_true (by omega)
            obtain ⟨ad, e0, hx0, hx1⟩ := at_T27 HRo.out (k : Int) (by omega) (by omega)
            have hps : (rd_T27 l (k : Int)).f0.size ≤ 281474976710656 := by
              rw [rd_at27 l k hk0]; exact HS.out _ (List.getElem_mem hk0)
            obtain ⟨p, hp⟩ : ∃ p, p = rd_T27 l (k : Int) := ⟨_, rfl⟩
            have hpe : p = l[k] := by rw [hp, rd_at27 l k hk0]
            rw [← hp] at hx0 hx1 hps
            have HPE := Aside0.mk hpe
            clear hp hpe
            cases e0
            obtain ⟨t, m⟩ := p
            simp only [Int.toNat_natCast] at hx0 hx1
            obtain ⟨v2, hv2, _⟩ := cond_some t hps
            have HV2 := Aside0.mk hv2
            have hbx := HB.out.alloc HB.out.size (.cells #[.string t, .bool m] 27)
            have HBX := Aside0.mk hbx
            clear hbx hv2
            cases hbq : (t.toList == tg.toList) with
            | true =>
              go_wp2_with fail
              go_ret
              exact ⟨rfl, below_then HBb.out HBb.out.size HBX.out⟩
            | false =>
              have hne : t ≠ tg := fun e => by rw [e, beq_self_eq_true] at hbq; cases hbq
              have HNE := Aside0.mk hne
              clear hne
              cases v2 with
              | false =>
                go_wp2_with (go_at_call 8; (with_reducible refine (spec_ScCond.calls _ t false _ HV2.out).mono ?_); rintro e w1 ⟨rfl, n1, rfl⟩)
                go_ret
                exact ⟨rfl, pw_below_drewN (below_then HBb.out HBb.out.size HBX.out) n1⟩
              | true =>
                go_wp2_with (go_at_call 8; (with_reducible refine (spec_ScCond.calls _ t true _ HV2.out).mono ?_); rintro e w1 ⟨rfl, n1, rfl⟩)
                go_roundw
                case rel =>
                  refine ⟨k + 1, by go_num, by omega, fun i h hi => ?_, pw_below_drewN HBX.out n1⟩
                  by_cases ei : i = k
                  · subst ei
                    rw [← HPE.out]; exact HNE.out
                  · exact HD.out i h (by omega)
                case measure => simp [intOf]; omega
          · obtain rfl : k = l.length := by omega
            have d0 : decide ((l.length : Int) < (l.length : Int)) = false := decide_eq_false (by omega)
            have HNA := Aside0.mk (fun p (hp : p ∈ l) => show p.f0 ≠ tg by
              obtain ⟨i, hi, rfl⟩ := List.getElem_of_mem hp
              exact HD.out i hi hi)
            go_wp2_with fail
            have hba := HB.out.alloc HB.out.size (.cells #[.string tg] 9)
            have hbb := hba.alloc hba.size (.cells #[.bool true] 4)
            have hzr : (wr.alloc (.cells #[.string tg] 9)).heap.size = wr.heap.size + 1 := by simp
            have ra : Rds (wr.alloc (.cells #[.string tg] 9)) wr.heap.size tg := lit_s wr tg
            have rb : Rdb ((wr.alloc (.cells #[.string tg] 9)).alloc (.cells #[.bool true] 4)) (wr.heap.size + 1) := by
              have h := lit_b (wr.alloc (.cells #[.string tg] 9))
              rwa [hzr] at h
            have ra2 := ra.below ((Below.refl _ _).alloc (Nat.le_refl _) (.cells #[.bool true] 4))
            (with_reducible refine (impl_one _ _ 1 1 tg A c0 l _ (Kd.C_below HRb.out (hbb)) (by omega) HS.out ra2 rb HNA.out (by omega) HNO.out).mono ?_)
            rintro e wf ⟨rfl, bf⟩
            have HBf := Aside0.mk (below_then HBb.out HBb.out.size (below_then hbb hbb.size bf))
            clear bf hba hbb hzr ra rb ra2
            go_wp2_with fail
            refine (impl_none none 0 [] _ ⟨rfl, by simp, fun h => absurd h (Nat.lt_irrefl 0)⟩ (by simp) (fun p h => by cases h)).mono ?_
            rintro e wg ⟨rfl, bg⟩
            have HBg := Aside0.mk (below_then HBf.out HBf.out.size bg)
            clear bg
            go_wp2_with fail
            go_ret
            exact ⟨rfl, HBg.out⟩
  · have dt : decide ((tg.size : Int) > 2147483647) = true := decide_eq_true (by omega)
    go_enter Try.func6, Try.ntmps6
    go_wp2_with fail
    go_ret
    exact ⟨rfl, Below.refl _ _⟩

end Go.Proofs.Ytkibblabjgoddaa.Tab

/- The law FnEnvRegexp: the walk, where all that came in holds at most 1048576. -/
import Derived.Test.YtopmkiadoacipaaMade
import Derived.Test.YtopmkiadoacipaaEnvR
namespace Go.Proofs.Ytopmkiadoacipaa.EnvRegexp
open Go.RowKit Go.Proofs.YtopmkiadoacipaaW.PrintWords Go.Proofs.Ytopmkiadoacipaa.PFnExpandMade Go.Proofs.Ytopmkiadoacipaa.Tab Go.Proofs.Ytopmkiadoacipaa.Xp Go.Proofs.Ytopmkiadoacipaa.Each Go.Proofs.Ytopmkiadoacipaa.Written Go.Proofs.Ytopmkiadoacipaa.PartsIn Go.Proofs.Ytopmkiadoacipaa.StrsIn Go.Proofs.Ytopmkiadoacipaa.Made

/-- ExpandEnv with two lists that have just been laid -/
theorem envr_lits (w : World) (l0 l1 : List ByteArray) (s tot : ByteArray) (h0 : l0.length ≤ 281474976710656) (h1 : l1.length ≤ 281474976710656) (hs0 : ∀ s ∈ l0, s.size ≤ 281474976710656) (hs1 : ∀ s ∈ l1, s.size ≤ 281474976710656)
    (hs : s.size ≤ 35184372088832) (ht : tot.size ≤ 70368744177664) (hx : Ex (tabv l0 l1) s 0 tot) (hv : Letters (tabv l0 l1)) :
    Calls Try.prog 20 #[.slice (some ⟨w.heap.size, 0, none⟩) l0.length l0.length, .slice (some ⟨w.heap.size + 1, 0, none⟩) l1.length l1.length, .string s, .bool true] ((w.alloc (.cells (encs Value.string l0).toArray 9)).alloc (.cells (encs Value.string l1).toArray 9))
    fun e w' => e = .returned (.string tot) ∧ Below w.heap.size w w' := by
  have hb1 : Below w.heap.size w (w.alloc (.cells (encs Value.string l0).toArray 9)) := below_alloc (Below.refl _ _) _
  have hb2 : Below w.heap.size w ((w.alloc (.cells (encs Value.string l0).toArray 9)).alloc (.cells (encs Value.string l1).toArray 9)) := hb1.alloc hb1.size _
  have hz : (w.alloc (.cells (encs Value.string l0).toArray 9)).heap.size = w.heap.size + 1 := by simp
  have r0 := rd_lit w l0 h0
  have r1 := rd_lit (w.alloc (.cells (encs Value.string l0).toArray 9)) l1 h1
  rw [hz] at r1
  refine (envr_is (some ⟨w.heap.size, 0, none⟩) (some ⟨w.heap.size + 1, 0, none⟩) l0.length l1.length l0 l1 s tot _ (r0.below (by exact (Below.refl _ _).alloc (Nat.le_refl _) _)) r1 h0 h1 hs0 hs1 hs ht hx hv).mono ?_
  rintro e w' ⟨rfl, hb⟩
  exact ⟨rfl, below_then hb2 hb2.size hb⟩

/-- the check of a known answer: ExpandEnv of $a, a being b -/
theorem fixed_envr (w : World) : Calls Try.prog 20 #[.slice (some ⟨w.heap.size, 0, none⟩) 1 1, .slice (some ⟨w.heap.size + 1, 0, none⟩) 1 1, .string ⟨#[36, 97]⟩, .bool true] ((w.alloc (.cells #[.string ⟨#[97]⟩] 9)).alloc (.cells #[.string ⟨#[98]⟩] 9))
    fun e w' => e = .returned (.string ⟨#[98]⟩) ∧ Below w.heap.size w w' :=
  envr_lits w [⟨#[97]⟩] [⟨#[98]⟩] ⟨#[36, 97]⟩ ⟨#[98]⟩ (by decide) (by decide) (fun s h => by rw [List.mem_singleton] at h; subst h; decide) (fun s h => by rw [List.mem_singleton] at h; subst h; decide) (by decide) (by decide) fixed_ex (letters_tab _ _ (fun s h => by rw [List.mem_singleton] at h; subst h; exact ⟨by decide, fun j h1 h2 => by have : (⟨#[98]⟩ : ByteArray).size = 1 := rfl; have e0 : j = 0 := (by omega); subst e0; decide⟩))

set_option maxHeartbeats 8000000 in
set_option maxRecDepth 100000 in
theorem walk (A0 A1 A2 : Option Addr) (c0 c1 c2 : Nat) (lp : List S50) (l0 l1 : List ByteArray) (w : World) (hp : Kd.C k50 w A0 lp.length lp) (hcp : lp.length ≤ c0) (h0 : Kd.C Kd.string w A1 l0.length l0) (hc0 : l0.length ≤ c1)
    (h1 : Kd.C Kd.string w A2 l1.length l1) (hc1 : l1.length ≤ c2) (hb : wp lp + wt l0 + wt l1 ≤ 1048576) :
    Calls Try.prog 8 #[.slice A0 lp.length c0, .slice A1 l0.length c1, .slice A2 l1.length c2] w fun e w' => e = .returned (.bool true) ∧ Below w.heap.size w w' := by
  have n0 := wp_length lp
  have n1 := wt_length l0
  have n2 := wt_length l1
  obtain ⟨bp, hbp⟩ := fits4_some lp (by omega)
  obtain ⟨b0, hb0, _⟩ := fits_some l0
  obtain ⟨b1, hb1, _⟩ := fits_some l1
  obtain ⟨bo, hbo, hok⟩ := parts_some lp 1048577 (by omega) (fun p h => by have := wp_mem h; omega) (by omega)
  have HP := Aside0.mk hp
  have H0 := Aside0.mk h0
  have H1 := Aside0.mk h1
  have HBP := Aside0.mk hbp
  have HB0 := Aside0.mk hb0
  have HB1 := Aside0.mk hb1
  have HBO := Aside0.mk hbo
  have HOK := Aside0.mk hok
  have G0 := Aside0.mk (fun s (h : s ∈ l0) => show s.size ≤ 281474976710656 by have := wt_mem h; omega)
  have G1 := Aside0.mk (fun s (h : s ∈ l1) => show s.size ≤ 281474976710656 by have := wt_mem h; omega)
  have G2 := Aside0.mk (fun s (h : s ∈ l1) => show s.size ≤ 1048576 by have := wt_mem h; omega)
  have hps := parts_size lp
  clear hp h0 h1 hbp hb0 hb1 hbo hok
  have hes := Nat.le_trans (expd_size (tabv l0 l1) 1048576 (fun x => tab_size l0 l1 1048576 G2.out x _) lp) (Nat.add_le_add_right (show wp lp ≤ 1048576 by omega) _)
  have hes2 : lp.length * 1048576 ≤ 1048576 * 1048576 := Nat.mul_le_mul_right _ (by omega)
  have HPw := HP
  have H0w := H0
  have H1w := H1
  have HBw := Aside0.mk (Below.refl w.heap.size w)
  clear HP H0 H1
  go_enter Try.func8, Try.ntmps8
  go_wp2_with fail
  (with_reducible refine (laws_zzFits4.calls _ A0 c0 lp bp _ HPw.out hcp HBP.out).mono ?_)
  rintro e wa ⟨rfl, ba⟩
  have HBa := Aside0.mk (below_then HBw.out HBw.out.size ba)
  have HPa := Aside0.mk (Kd.C_below HPw.out ba)
  have H0a := Aside0.mk (Kd.C_below H0w.out ba)
  have H1a := Aside0.mk (Kd.C_below H1w.out ba)
  clear ba HBw HPw H0w H1w
  cases bp with
  | false =>
    go_wp2_with fail
    go_ret
    exact ⟨rfl, HBa.out⟩
  | true =>
    go_wp2_with fail
    (with_reducible refine (laws_zzFits3.calls _ A1 c1 l0 b0 _ H0a.out hc0 HB0.out).mono ?_)
    rintro e wb ⟨rfl, hdb⟩
    have bb := hdb.below
    clear hdb
    have HBb := Aside0.mk (below_then HBa.out HBa.out.size bb)
    have HPb := Aside0.mk (Kd.C_below HPa.out bb)
    have H0b := Aside0.mk (Kd.C_below H0a.out bb)
    have H1b := Aside0.mk (Kd.C_below H1a.out bb)
    clear bb HBa HPa H0a H1a
    cases b0 with
    | false =>
      go_wp2_with fail
      go_ret
      exact ⟨rfl, HBb.out⟩
    | true =>
      go_wp2_with fail
      (with_reducible refine (laws_zzFits3.calls _ A2 c2 l1 b1 _ H1b.out hc1 HB1.out).mono ?_)
      rintro e wc ⟨rfl, hdc⟩
      have bc := hdc.below
      clear hdc
      have HBc := Aside0.mk (below_then HBb.out HBb.out.size bc)
      have HPc := Aside0.mk (Kd.C_below HPb.out bc)
      have H0c := Aside0.mk (Kd.C_below H0b.out bc)
      have H1c := Aside0.mk (Kd.C_below H1b.out bc)
      clear bc HBb HPb H0b H1b
      cases b1 with
      | false =>
        go_wp2_with fail
        go_ret
        exact ⟨rfl, HBc.out⟩
      | true =>
        go_wp2_with fail
        (with_reducible refine (spec_ScParts.calls _ A0 c0 lp bo _ HPc.out hcp HBO.out).mono ?_)
        rintro e wd ⟨rfl, bd⟩
        have HBd := Aside0.mk (below_then HBc.out HBc.out.size bd)
        have HPd := Aside0.mk (Kd.C_below HPc.out bd)
        have H0d := Aside0.mk (Kd.C_below H0c.out bd)
        have H1d := Aside0.mk (Kd.C_below H1c.out bd)
        clear bd HBc HPc H0c H1c
        cases bo with
        | false =>
          go_wp2_with fail
          go_ret
          exact ⟨rfl, HBd.out⟩
        | true =>
          go_wp2_with fail
          (with_reducible refine (Vars.vars_is A1 A2 c1 c2 l0 l1 _ (rd_of H0d.out) hc0 (by omega) G0.out).mono ?_)
          rintro e we ⟨bv, rfl, hgood, be⟩
          have HBe := Aside0.mk (below_then HBd.out HBd.out.size be)
          have HPe := Aside0.mk (Kd.C_below HPd.out be)
          have H0e := Aside0.mk (Kd.C_below H0d.out be)
          have H1e := Aside0.mk (Kd.C_below H1d.out be)
          clear be HBd HPd H0d H1d
          cases bv with
          | false =>
            go_wp2_with fail
            go_ret
            exact ⟨rfl, HBe.out⟩
          | true =>
            have HE := Aside0.mk (expanded_is lp l0 l1 (hgood (by first | rfl | trivial)) (by omega) (by omega) (by have := hes; omega))
            have HX := Aside0.mk (ex_parts (tabv l0 l1) lp (HOK.out (by first | rfl | trivial)) (by omega))
            clear hgood
            go_wp2_with fail
            go_loopw [33] (fun v33 wr => ∃ k : Nat, v33 = .int .i64 k ∧ k ≤ l1.length ∧ (∀ i, i < k → Vr (l1.getD i ByteArray.empty)) ∧ Below we.heap.size we wr) (fun v33 _ => l1.length - (intOf v33).toNat)
            case atStart => exact ⟨0, rfl, by omega, fun i h => by omega, Below.refl _ _⟩
            case round =>
              obtain ⟨k, rfl, hk, hvk, br⟩ := hrel
              have HVK := Aside0.mk hvk
              have HBr := Aside0.mk (below_then HBe.out HBe.out.size br)
              have HPr := Aside0.mk (Kd.C_below HPe.out br)
              have H0r := Aside0.mk (Kd.C_below H0e.out br)
              have H1r := Aside0.mk (Kd.C_below H1e.out br)
              have HBR := Aside0.mk br
              clear hvk br
              by_cases hk0 : k < l1.length
              · have hR := rd_of H1r.out
                obtain ⟨ad2, rfl⟩ := rd_some hR (by omega)
                have e0 := rd_at hR k hk0
                have hz0 := getD_size G1.out k
                obtain ⟨n, hn⟩ : ∃ n, n = l1.getD k ByteArray.empty := ⟨_, rfl⟩
                have HN := Aside0.mk hn
                rw [← hn] at e0 hz0
                have dk : decide ((k : Int) < (l1.length : Int)) = true := decide_eq_true (by omega)
                obtain ⟨v, hv, hvt⟩ := variable_some n hz0
                have HV := Aside0.mk hv
                have HVT := Aside0.mk hvt
                clear hn hR hv hvt
                cases v with
                | false =>
                  go_wp2_with (go_at_call 13; (with_reducible refine (spec_ScVariable.calls _ n false _ HV.out).mono ?_); rintro e w1 ⟨rfl, m1, rfl⟩)
                  go_ret
                  exact ⟨rfl, pw_below_drewN HBr.out m1⟩
                | true =>
                  go_wp2_with (go_at_call 13; (with_reducible refine (spec_ScVariable.calls _ n true _ HV.out).mono ?_); rintro e w1 ⟨rfl, m1, rfl⟩)
                  go_roundw
                  case rel =>
                    refine ⟨k + 1, by go_num, by omega, fun i hi => ?_, pw_below_drewN HBR.out m1⟩
                    by_cases ei : i = k
                    · subst ei
                      have := HVT.out (by first | rfl | trivial)
                      rw [HN.out] at this
                      exact this
                    · exact HVK.out i (by omega)
                  case measure => simp [intOf]; omega
              · obtain rfl : k = l1.length := by omega
                have dk : decide ((l1.length : Int) < (l1.length : Int)) = false := decide_eq_false (by omega)
                have HLT := Aside0.mk (letters_tab l0 l1 (fun s hs => by
                  obtain ⟨i, hi, rfl⟩ := List.getElem_of_mem hs
                  have := HVK.out i hi
                  rw [List.getD_eq_getElem?_getD, List.getElem?_eq_getElem hi] at this
                  exact ⟨G1.out _ hs, this.2.1⟩))
                clear HBe HPe H0e H1e HBR HVK
                go_wp2_with fail
                (with_reducible refine (written_is A0 c0 lp _ HPr.out (by omega) (by omega)).mono ?_)
                rintro e wf ⟨rfl, bf⟩
                have HBf := Aside0.mk (below_then HBr.out HBr.out.size bf)
                have HPf := Aside0.mk (Kd.C_below HPr.out bf)
                have H0f := Aside0.mk (Kd.C_below H0r.out bf)
                have H1f := Aside0.mk (Kd.C_below H1r.out bf)
                clear bf HBr HPr H0r H1r
                go_wp2_with fail
                (with_reducible refine (envr_is A1 A2 c1 c2 l0 l1 (parts lp) (expd (tabv l0 l1) lp) _ (rd_of H0f.out) (rd_of H1f.out) (by omega) (by omega) G0.out G1.out (by omega) (by omega) HX.out HLT.out).mono ?_)
                rintro e wg ⟨rfl, bg⟩
                have HBg := Aside0.mk (below_then HBf.out HBf.out.size bg)
                have HPg := Aside0.mk (Kd.C_below HPf.out bg)
                have H0g := Aside0.mk (Kd.C_below H0f.out bg)
                have H1g := Aside0.mk (Kd.C_below H1f.out bg)
                clear bg HBf HPf H0f H1f
                go_wp2_with fail
                (with_reducible refine (spec_ScExpanded.calls _ A0 c0 lp A1 c1 l0 A2 c2 l1 _ _ HPg.out hcp H0g.out hc0 H1g.out hc1 HE.out).mono ?_)
                rintro e wh ⟨rfl, bh⟩
                have HBh := Aside0.mk (below_then HBg.out HBg.out.size bh)
                clear bh HBg HPg H0g H1g
                go_wp2_with fail
                refine (fixed_envr wh).mono ?_
                rintro e wi ⟨rfl, bi⟩
                have HBi := Aside0.mk (below_then HBh.out HBh.out.size bi)
                clear bi
                go_wp2_with fail
                go_ret
                exact ⟨rfl, HBi.out⟩

end Go.Proofs.Ytopmkiadoacipaa.EnvRegexp

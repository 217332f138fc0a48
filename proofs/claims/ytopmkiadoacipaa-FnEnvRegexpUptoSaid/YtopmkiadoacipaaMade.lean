/- The law FnExpandMade: the walk, where all that came in holds at most 1048576. -/
import Derived.Test.YtopmkiadoacipaaMadePlain2
namespace Go.Proofs.Ytopmkiadoacipaa.Made
open Go.RowKit Go.Proofs.YtopmkiadoacipaaW.PrintWords Go.Proofs.Ytopmkiadoacipaa.PFnExpandMade Go.Proofs.Ytopmkiadoacipaa.Tab Go.Proofs.Ytopmkiadoacipaa.Xp Go.Proofs.Ytopmkiadoacipaa.Each Go.Proofs.Ytopmkiadoacipaa.Written Go.Proofs.Ytopmkiadoacipaa.PartsIn Go.Proofs.Ytopmkiadoacipaa.StrsIn

theorem fits5_some (a : ByteArray) (b c : Bool) : ∃ r, laws_zzFits5.f a b c = some r := by
  unfold laws_zzFits5.f
  split <;> exact ⟨_, rfl⟩

theorem fits4_from (l : List S50) (hl : l.length ≤ 281474976710656) (d : Nat) : ∀ (k i : Nat), i ≤ l.length → l.length - i = d → d < k → ∃ b, laws_zzFits4.l0 k l (l.length : Int) (i : Int) = some b := by
  induction d with
  | zero =>
    intro k i h1 hd hk
    obtain ⟨k, rfl⟩ : ∃ m, k = m + 1 := ⟨k - 1, by omega⟩
    exact ⟨true, by simp only [laws_zzFits4.l0]; rw [if_neg (by omega)]⟩
  | succ d ih =>
    intro k i h1 hd hk
    obtain ⟨k, rfl⟩ : ∃ m, k = m + 1 := ⟨k - 1, by omega⟩
    obtain ⟨b, hb⟩ := ih k (i + 1) (by omega) (by omega) (by omega)
    simp only [laws_zzFits4.l0]
    rw [if_pos (by omega), if_pos (by omega), if_pos (by omega)]
    obtain ⟨r, hr⟩ := fits5_some (rd_T50 l (i : Int)).f0 (rd_T50 l (i : Int)).f1 (rd_T50 l (i : Int)).f2
    rw [hr]
    simp only [Option.bind_some]
    cases r with
    | false => exact ⟨false, by rw [if_neg (by simp)]⟩
    | true =>
      refine ⟨b, ?_⟩
      rw [if_pos rfl, wrap_next (n := l.length) (by omega) (by omega) (by omega)]
      exact hb

theorem fits4_some (l : List S50) (hl : l.length ≤ 2097152) : ∃ b, laws_zzFits4.f (l.length + 1) l = some b := by
  unfold laws_zzFits4.f
  rw [if_neg (by omega)]
  exact fits4_from l (by omega) l.length _ 0 (by omega) (by omega) (by omega)

theorem parts_size (l : List S50) : (parts l).size ≤ wp l := by
  induction l with
  | nil => simp [parts]
  | cons p l ih =>
    rw [parts_cons, ByteArray.size_append]
    obtain ⟨t, f1, f2⟩ := p
    have h1 : (Written.part ⟨t, f1, f2⟩).size ≤ t.size + 3 := by
      cases f1
      · rw [part_f]; omega
      · cases f2
        · rw [part_tf, ByteArray.size_append]; have : (⟨#[36]⟩ : ByteArray).size = 1 := rfl; omega
        · rw [part_tt, ByteArray.size_append, ByteArray.size_append]
          have : (⟨#[36, 123]⟩ : ByteArray).size = 2 := rfl
          have : (⟨#[125]⟩ : ByteArray).size = 1 := rfl
          omega
    simp only [wp]
    omega

theorem expd_size (f : ByteArray → ByteArray) (N : Nat) (hf : ∀ x, (f x).size ≤ N) (l : List S50) : (expd f l).size ≤ wp l + l.length * N := by
  induction l with
  | nil => simp [expd]
  | cons p l ih =>
    simp only [expd, ByteArray.size_append, wp, List.length_cons, Nat.add_mul]
    have h1 : (if p.f1 = true then f p.f0 else p.f0).size ≤ p.f0.size + N := by
      split
      · have := hf p.f0; omega
      · omega
    omega

theorem tab_size (l0 l1 : List ByteArray) (N : Nat) (h : ∀ s ∈ l1, s.size ≤ N) (x : ByteArray) (k : Nat) : (tab l0 l1 k x).size ≤ N := by
  induction k with
  | zero => exact Nat.zero_le _
  | succ k ih =>
    simp only [tab]
    split
    · exact getD_size h k
    · exact ih

set_option maxHeartbeats 8000000 in
set_option maxRecDepth 100000 in
theorem walk (A0 A1 A2 : Option Addr) (c0 c1 c2 : Nat) (lp : List S50) (l0 l1 : List ByteArray) (w : World) (hp : Kd.C k50 w A0 lp.length lp) (hcp : lp.length ≤ c0) (h0 : Kd.C Kd.string w A1 l0.length l0) (hc0 : l0.length ≤ c1)
    (h1 : Kd.C Kd.string w A2 l1.length l1) (hc1 : l1.length ≤ c2) (hb : wp lp + wt l0 + wt l1 ≤ 1048576) :
    Calls Try.prog 5 #[.slice A0 lp.length c0, .slice A1 l0.length c1, .slice A2 l1.length c2] w fun e w' => e = .returned (.bool true) ∧ Below w.heap.size w w' := by
  have n0 := wp_length lp
  have n1 := wt_length l0
  have n2 := wt_length l1
  obtain ⟨bp, hbp⟩ := fits4_some lp (by omega)
  obtain ⟨b0, hb0, _⟩ := fits_some l0
  obtain ⟨b1, hb1, _⟩ := fits_some l1
  obtain ⟨bo, hbo, hok⟩ := parts_some lp 1048577 (by omega) (fun p h => by have := wp_mem h; omega) (by omega)
  have HP := Aside0.mk hp
  have H0 := Aside0.mk h0
  have H1 := Aside0.mk h1
  have HBP := Aside0.mk hbp
  have HB0 := Aside0.mk hb0
  have HB1 := Aside0.mk hb1
  have HBO := Aside0.mk hbo
  have HOK := Aside0.mk hok
  have G0 := Aside0.mk (fun s (h : s ∈ l0) => show s.size ≤ 281474976710656 by have := wt_mem h; omega)
  have G1 := Aside0.mk (fun s (h : s ∈ l1) => show s.size ≤ 281474976710656 by have := wt_mem h; omega)
  have G2 := Aside0.mk (fun s (h : s ∈ l1) => show s.size ≤ 1048576 by have := wt_mem h; omega)
  have hps := parts_size lp
  clear hp h0 h1 hbp hb0 hb1 hbo hok
  have hes := Nat.le_trans (expd_size (tabv l0 l1) 1048576 (fun x => tab_size l0 l1 1048576 G2.out x _) lp) (Nat.add_le_add_right (show wp lp ≤ 1048576 by omega) _)
  have hes2 : lp.length * 1048576 ≤ 1048576 * 1048576 := Nat.mul_le_mul_right _ (by omega)
  have HPw := HP
  have H0w := H0
  have H1w := H1
  have HBw := Aside0.mk (Below.refl w.heap.size w)
  clear HP H0 H1
  go_enter Try.func5, Try.ntmps5
  go_wp2_with fail
  (with_reducible refine (laws_zzFits4.calls _ A0 c0 lp bp _ HPw.out hcp HBP.out).mono ?_)
  rintro e wa ⟨rfl, ba⟩
  have HBa := Aside0.mk (below_then HBw.out HBw.out.size ba)
  have HPa := Aside0.mk (Kd.C_below HPw.out ba)
  have H0a := Aside0.mk (Kd.C_below H0w.out ba)
  have H1a := Aside0.mk (Kd.C_below H1w.out ba)
  clear ba HBw HPw H0w H1w
  cases bp with
  | false =>
    go_wp2_with fail
    go_ret
    exact ⟨rfl, HBa.out⟩
  | true =>
    go_wp2_with fail
    (with_reducible refine (laws_zzFits3.calls _ A1 c1 l0 b0 _ H0a.out hc0 HB0.out).mono ?_)
    rintro e wb ⟨rfl, hdb⟩
    have bb := hdb.below
    clear hdb
    have HBb := Aside0.mk (below_then HBa.out HBa.out.size bb)
    have HPb := Aside0.mk (Kd.C_below HPa.out bb)
    have H0b := Aside0.mk (Kd.C_below H0a.out bb)
    have H1b := Aside0.mk (Kd.C_below H1a.out bb)
    clear bb HBa HPa H0a H1a
    cases b0 with
    | false =>
      go_wp2_with fail
      go_ret
      exact ⟨rfl, HBb.out⟩
    | true =>
      go_wp2_with fail
      (with_reducible refine (laws_zzFits3.calls _ A2 c2 l1 b1 _ H1b.out hc1 HB1.out).mono ?_)
      rintro e wc ⟨rfl, hdc⟩
      have bc := hdc.below
      clear hdc
      have HBc := Aside0.mk (below_then HBb.out HBb.out.size bc)
      have HPc := Aside0.mk (Kd.C_below HPb.out bc)
      have H0c := Aside0.mk (Kd.C_below H0b.out bc)
      have H1c := Aside0.mk (Kd.C_below H1b.out bc)
      clear bc HBb HPb H0b H1b
      cases b1 with
      | false =>
        go_wp2_with fail
        go_ret
        exact ⟨rfl, HBc.out⟩
      | true =>
        go_wp2_with fail
        (with_reducible refine (spec_ScParts.calls _ A0 c0 lp bo _ HPc.out hcp HBO.out).mono ?_)
        rintro e wd ⟨rfl, bd⟩
        have HBd := Aside0.mk (below_then HBc.out HBc.out.size bd)
        have HPd := Aside0.mk (Kd.C_below HPc.out bd)
        have H0d := Aside0.mk (Kd.C_below H0c.out bd)
        have H1d := Aside0.mk (Kd.C_below H1c.out bd)
        clear bd HBc HPc H0c H1c
        cases bo with
        | false =>
          go_wp2_with fail
          go_ret
          exact ⟨rfl, HBd.out⟩
        | true =>
          go_wp2_with fail
          (with_reducible refine (Vars.vars_is A1 A2 c1 c2 l0 l1 _ (rd_of H0d.out) hc0 (by omega) G0.out).mono ?_)
          rintro e we ⟨bv, rfl, hgood, be⟩
          have HBe := Aside0.mk (below_then HBd.out HBd.out.size be)
          have HPe := Aside0.mk (Kd.C_below HPd.out be)
          have H0e := Aside0.mk (Kd.C_below H0d.out be)
          have H1e := Aside0.mk (Kd.C_below H1d.out be)
          clear be HBd HPd H0d H1d
          cases bv with
          | false =>
            go_wp2_with fail
            go_ret
            exact ⟨rfl, HBe.out⟩
          | true =>
            have HE := Aside0.mk (expanded_is lp l0 l1 (hgood (by first | rfl | trivial)) (by omega) (by omega) (by have := hes; omega))
            have HX := Aside0.mk (ex_parts (tabv l0 l1) lp (HOK.out (by first | rfl | trivial)) (by omega))
            clear hgood
            go_wp2_with fail
            (with_reducible refine (written_is A0 c0 lp _ HPe.out (by omega) (by omega)).mono ?_)
            rintro e wf ⟨rfl, bf⟩
            have HBf := Aside0.mk (below_then HBe.out HBe.out.size bf)
            have HPf := Aside0.mk (Kd.C_below HPe.out bf)
            have H0f := Aside0.mk (Kd.C_below H0e.out bf)
            have H1f := Aside0.mk (Kd.C_below H1e.out bf)
            clear bf HBe HPe H0e H1e
            go_wp2_with fail
            (with_reducible refine (impl_is A1 A2 c1 c2 l0 l1 (parts lp) (expd (tabv l0 l1) lp) _ (rd_of H0f.out) (rd_of H1f.out) (by omega) (by omega) G0.out G1.out (by omega) (by omega) HX.out).mono ?_)
            rintro e wg ⟨rfl, bg⟩
            have HBg := Aside0.mk (below_then HBf.out HBf.out.size bg)
            have HPg := Aside0.mk (Kd.C_below HPf.out bg)
            have H0g := Aside0.mk (Kd.C_below H0f.out bg)
            have H1g := Aside0.mk (Kd.C_below H1f.out bg)
            clear bg HBf HPf H0f H1f
            go_wp2_with fail
            (with_reducible refine (spec_ScExpanded.calls _ A0 c0 lp A1 c1 l0 A2 c2 l1 _ _ HPg.out hcp H0g.out hc0 H1g.out hc1 HE.out).mono ?_)
            rintro e wh ⟨rfl, bh⟩
            have HBh := Aside0.mk (below_then HBg.out HBg.out.size bh)
            clear bh HBg HPg H0g H1g
            go_wp2_with fail
            refine (fixed_is wh).mono ?_
            rintro e wi ⟨rfl, bi⟩
            have HBi := Aside0.mk (below_then HBh.out HBh.out.size bi)
            clear bi
            go_wp2_with fail
            go_ret
            exact ⟨rfl, HBi.out⟩

end Go.Proofs.Ytopmkiadoacipaa.Made

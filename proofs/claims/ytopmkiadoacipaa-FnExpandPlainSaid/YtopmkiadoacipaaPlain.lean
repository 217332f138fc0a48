/- The law FnExpandPlain: the walk. -/
import Derived.Test.YtopmkiadoacipaaFits
namespace Go.Proofs.Ytopmkiadoacipaa.Plain
open Go.RowKit Go.Proofs.YtopmkiadoacipaaW.PrintWords Go.Proofs.Ytopmkiadoacipaa.PFnExpandMade Go.Proofs.Ytopmkiadoacipaa.Tab Go.Proofs.Ytopmkiadoacipaa.Xp

set_option maxHeartbeats 8000000 in
set_option maxRecDepth 100000 in
theorem walk (A0 A1 : Option Addr) (c0 c1 : Nat) (l0 l1 : List ByteArray) (s : ByteArray) (w : World) (h0 : Kd.C Kd.string w A0 l0.length l0) (hc0 : l0.length ≤ c0) (h1 : Kd.C Kd.string w A1 l1.length l1) (hc1 : l1.length ≤ c1) :
    Calls Try.prog 6 #[.slice A0 l0.length c0, .slice A1 l1.length c1, .string s] w fun e w' => e = .returned (.bool true) ∧ Below w.heap.size w w' := by
  obtain ⟨b0, hb0, hf0⟩ := fits_some l0
  obtain ⟨b1, hb1, hf1⟩ := fits_some l1
  have R0 := Aside0.mk (rd_of h0)
  have R1 := Aside0.mk (rd_of h1)
  have H0 := Aside0.mk h0
  have H1 := Aside0.mk h1
  have HB0 := Aside0.mk hb0
  have HB1 := Aside0.mk hb1
  have HF0 := Aside0.mk hf0
  have HF1 := Aside0.mk hf1
  clear h0 h1 hb0 hb1 hf0 hf1
  cases b0 with
  | false =>
    go_enter Try.func6, Try.ntmps6
    go_wp2_with (go_at_call 15; (with_reducible refine (laws_zzFits3.calls _ A0 c0 l0 false _ H0.out hc0 HB0.out).mono ?_); rintro e w1 ⟨rfl, n1, rfl⟩)
    go_ret
    exact ⟨rfl, pw_below_drewN (Below.refl _ _) _⟩
  | true =>
    cases b1 with
    | false =>
      go_enter Try.func6, Try.ntmps6
      go_wp2_with (go_at_call 15; (with_reducible refine (laws_zzFits3.calls _ A0 c0 l0 true _ H0.out hc0 HB0.out).mono ?_); rintro e w1 ⟨rfl, n1, rfl⟩)
      go_wp2_with (go_at_call 15; (with_reducible refine (laws_zzFits3.calls _ A1 c1 l1 false _ (Kd.C_drewN H1.out n1) hc1 HB1.out).mono ?_); rintro e w1 ⟨rfl, n2, rfl⟩)
      go_ret
      exact ⟨rfl, pw_below_drewN (Below.refl _ _) _⟩
    | true =>
      by_cases l2 : s.size ≤ 2147483647
      · have d2 : decide ((s.size : Int) > 2147483647) = false := decide_eq_false (by omega)
        obtain ⟨b2, hb2, hf2⟩ := has_some s 36 (by omega)
        have HB2 := Aside0.mk hb2
        have HF2 := Aside0.mk hf2
        clear hb2 hf2
        cases b2 with
        | true =>
          go_enter Try.func6, Try.ntmps6
          go_wp2_with (go_at_call 15; (with_reducible refine (laws_zzFits3.calls _ A0 c0 l0 true _ H0.out hc0 HB0.out).mono ?_); rintro e w1 ⟨rfl, n1, rfl⟩)
          go_wp2_with (go_at_call 15; (with_reducible refine (laws_zzFits3.calls _ A1 c1 l1 true _ (Kd.C_drewN H1.out n1) hc1 HB1.out).mono ?_); rintro e w1 ⟨rfl, n2, rfl⟩)
          go_wp2_with (go_at_call 11; (with_reducible refine (spec_ScHas.calls _ s 36 true _ HB2.out).mono ?_); rintro e w1 ⟨rfl, n3, rfl⟩)
          go_ret
          exact ⟨rfl, pw_below_drewN (Below.refl _ _) _⟩
        | false =>
          have hx : Ex (tabv l0 l1) s 0 s := by
            have := ex_plain (tabv l0 l1) s ByteArray.empty ByteArray.empty (fun j hj => HF2.out rfl j (by omega) (by omega)) (ex_nil _)
            simpa using this
          have HX := Aside0.mk hx
          obtain ⟨g1, g2⟩ := HF0.out rfl
          obtain ⟨g3, g4⟩ := HF1.out rfl
          have G2 := Aside0.mk (fun x hx => Nat.le_trans (g2 x hx) (show 2147483647 ≤ 281474976710656 by omega))
          have G4 := Aside0.mk (fun x hx => Nat.le_trans (g4 x hx) (show 2147483647 ≤ 281474976710656 by omega))
          clear hx g2 g4
          go_enter Try.func6, Try.ntmps6
          go_wp2_with (go_at_call 15; (with_reducible refine (laws_zzFits3.calls _ A0 c0 l0 true _ H0.out hc0 HB0.out).mono ?_); rintro e w1 ⟨rfl, n1, rfl⟩)
          go_wp2_with (go_at_call 15; (with_reducible refine (laws_zzFits3.calls _ A1 c1 l1 true _ (Kd.C_drewN H1.out n1) hc1 HB1.out).mono ?_); rintro e w1 ⟨rfl, n2, rfl⟩)
          go_wp2_with (go_at_call 11; (with_reducible refine (spec_ScHas.calls _ s 36 false _ HB2.out).mono ?_); rintro e w1 ⟨rfl, n3, rfl⟩)
          (refine (impl_is A0 A1 c0 c1 l0 l1 s s (w.drewN (n1 + n2 + n3)) R0.out R1.out (by omega) (by omega) G2.out G4.out (by omega) (by omega) HX.out).mono ?_)
          rintro e w4 ⟨rfl, b4⟩
          have HB4 := Aside0.mk (show Below w.heap.size w w4 from (pw_below_drewN (Below.refl _ _) (n1 + n2 + n3)).trans b4)
          have hsz := HB4.out.size
          clear b4
          go_wp2_with fail
          (refine (fixed_is w4).mono ?_)
          rintro e w5 ⟨rfl, b5⟩
          have HB5 := Aside0.mk (below_then HB4.out hsz b5)
          clear b5
          go_wp2_with fail
          go_ret
          exact ⟨rfl, HB5.out⟩
      · have d2 : decide ((s.size : Int) > 2147483647) = true := decide_eq_true (by omega)
        go_enter Try.func6, Try.ntmps6
        go_wp2_with (go_at_call 15; (with_reducible refine (laws_zzFits3.calls _ A0 c0 l0 true _ H0.out hc0 HB0.out).mono ?_); rintro e w1 ⟨rfl, n1, rfl⟩)
        go_wp2_with (go_at_call 15; (with_reducible refine (laws_zzFits3.calls _ A1 c1 l1 true _ (Kd.C_drewN H1.out n1) hc1 HB1.out).mono ?_); rintro e w1 ⟨rfl, n2, rfl⟩)
        go_ret
        exact ⟨rfl, pw_below_drewN (Below.refl _ _) _⟩

end Go.Proofs.Ytopmkiadoacipaa.Plain

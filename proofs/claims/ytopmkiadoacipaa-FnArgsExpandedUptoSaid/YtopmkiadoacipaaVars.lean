/- The walk of spec.ScVariables. -/
import Derived.Test.YtopmkiadoacipaaFits
import Derived.Test.YtopmkiadoacipaaEach
import Derived.WalkSpells
namespace Go.Proofs.Ytopmkiadoacipaa.Vars
open Go.RowKit Go.Proofs.YtopmkiadoacipaaW.PrintWords Go.Proofs.Ytopmkiadoacipaa.PFnExpandMade Go.Proofs.Ytopmkiadoacipaa.Tab Go.Proofs.Ytopmkiadoacipaa.Xp Go.Proofs.Ytopmkiadoacipaa.Each

abbrev nth (l : List ByteArray) (i : Nat) : ByteArray := l.getD i ByteArray.empty

/-- as many values as names, each that of a variable, none twice -/
def Good (l0 l1 : List ByteArray) : Prop := l0.length = l1.length ∧ (∀ i, i < l0.length → Vr (nth l0 i)) ∧ ∀ i, i < l0.length → ∀ j, j < i → nth l0 j ≠ nth l0 i

set_option maxHeartbeats 8000000 in
set_option maxRecDepth 100000 in
theorem vars_is (A0 A1 : Option Addr) (c0 c1 : Nat) (l0 l1 : List ByteArray) (w : World) (h0 : Rd w A0 l0.length l0) (hc0 : l0.length ≤ c0) (hl0 : l0.length ≤ 281474976710656)
    (hs0 : ∀ s ∈ l0, s.size ≤ 281474976710656) :
    Calls Try.prog 17 #[.slice A0 l0.length c0, .slice A1 l1.length c1] w fun e w' => ∃ b, e = .returned (.bool b) ∧ (b = true → Good l0 l1) ∧ Below w.heap.size w w' := by
  have H0 := Aside0.mk h0
  have HS0 := Aside0.mk hs0
  clear h0 hs0
  by_cases hl : l0.length = l1.length
  · have d0 : ((l0.length : Int) != (l1.length : Int)) = false := by rw [bne_eq_false_iff_eq]; omega
    have HL := Aside0.mk hl
    clear hl
    go_enter Try.func17, Try.ntmps17
    go_wp2_with fail
    go_loopw [16] (fun v16 wr => ∃ k : Nat, v16 = .int .i64 k ∧ k ≤ l0.length ∧ (∀ i, i < k → Vr (nth l0 i)) ∧ (∀ i, i < k → ∀ j, j < i → nth l0 j ≠ nth l0 i) ∧ Below w.heap.size w wr) (fun v16 _ => l0.length - (intOf v16).toNat)
    case atStart => exact ⟨0, rfl, by omega, fun i h => by omega, fun i h => by omega, Below.refl _ _⟩
    case round =>
      obtain ⟨wo, rfl⟩ : ∃ wo : World, wo = wr := ⟨_, rfl⟩
      obtain ⟨k, rfl, hk, hv, hd, hB⟩ := hrel
      have HV := Aside0.mk hv
      have HD := Aside0.mk hd
      have HB := Aside0.mk hB
      clear hv hd hB
      by_cases hk0 : k < l0.length
      · obtain ⟨ad0, rfl⟩ := rd_some H0.out (by omega)
        have e0 := rd_at (H0.out) k hk0
        have hz0 := getD_size HS0.out k
        have HR := Aside0.mk (fun j (hj : j < k) => (HB.out.cell (World.block_lt_of_cell? w _ (rd_at H0.out j (Nat.lt_trans hj hk0)))).trans (rd_at H0.out j (Nat.lt_trans hj hk0)))
        obtain ⟨n, hn⟩ : ∃ n, n = l0.getD k ByteArray.empty := ⟨_, rfl⟩
        have HN := Aside0.mk hn
        rw [← hn] at e0 hz0
        have e0' : wo.cell? (ad0.add k) = some (.string n) := (HB.out.cell (World.block_lt_of_cell? w _ e0)).trans e0
        have d1 : decide ((k : Int) < (l0.length : Int)) = true := decide_eq_true (by omega)
        have hcap : (k : Int) ≤ (c0 : Int) := by omega
        obtain ⟨b, hb, hvr⟩ := variable_some n hz0
        have HVB := Aside0.mk hb
        have HVR := Aside0.mk hvr
        clear hb hvr hn e0
        cases b with
        | false =>
          go_wp2_with (go_at_call 13; (with_reducible refine (spec_ScVariable.calls _ n false _ HVB.out).mono ?_); rintro e w1 ⟨rfl, n1, rfl⟩)
          go_ret
          exact ⟨false, rfl, (fun h => by cases h), pw_below_drewN HB.out n1⟩
        | true =>
          go_wp2_with (go_at_call 13; (with_reducible refine (spec_ScVariable.calls _ n true _ HVB.out).mono ?_); rintro e w1 ⟨rfl, n1, rfl⟩)
          obtain ⟨wn, hwn⟩ : ∃ wn : World, wn = wo.drewN n1 := ⟨_, rfl⟩
          have HR2 : Aside0 (∀ (j : Nat), j < k → wn.cell? (ad0.add j) = some (.string (l0.getD j ByteArray.empty))) := Aside0.mk (by rw [hwn]; exact HR.out)
          have HB2 : Aside0 (Below w.heap.size w wn) := Aside0.mk (by rw [hwn]; exact pw_below_drewN HB.out n1)
          rw [← hwn]
          clear hwn
          go_loopw [28] (fun v28 wi => ∃ q : Nat, v28 = .int .i64 q ∧ q ≤ k ∧ (∀ j, j < q → nth l0 j ≠ n) ∧ wi = wn) (fun v28 _ => k - (intOf v28).toNat)
          case atStart => exact ⟨0, rfl, by omega, fun j h => by omega, rfl⟩
          case round =>
            obtain ⟨q, rfl, hq, hno, rfl⟩ := hrel
            have HNO := Aside0.mk hno
            clear hno
            by_cases hq0 : q < k
            · have e1 := HR2.out q hq0
              obtain ⟨m, hm⟩ : ∃ m, m = l0.getD q ByteArray.empty := ⟨_, rfl⟩
              have HM := Aside0.mk hm
              rw [← hm] at e1
              clear hm
              have dq : decide ((q : Int) < (k : Int)) = true := decide_eq_true (by omega)
              by_cases hmn : n = m
              · have hbq : (n.toList == m.toList) = true := by rw [hmn]; exact beq_self_eq_true _
                clear hmn
                go_wp2_with fail
                go_ret
                exact ⟨false, rfl, (fun h => by cases h), HB2.out⟩
              · have hbq : (n.toList == m.toList) = false := by
                  rw [beq_eq_false_iff_ne]
                  intro h
                  rw [ByteArray.toList_eq, ByteArray.toList_eq] at h
                  exact hmn (bytes_of_list h)
                have HMN := Aside0.mk hmn
                clear hmn
                go_wp2_with fail
                go_roundw
                case rel =>
                  refine ⟨q + 1, by go_num, by omega, fun j hj => ?_, (by first | rfl | trivial)⟩
                  by_cases ej : j = q
                  · subst ej
                    intro e
                    exact HMN.out (by rw [HM.out]; exact e.symm)
                  · exact HNO.out j (by omega)
                case measure => simp [intOf]; omega
            · obtain rfl : q = k := by omega
              have dq : decide ((q : Int) < (q : Int)) = false := decide_eq_false (by omega)
              go_wp2_with fail
              go_roundw
              case rel =>
                refine ⟨q + 1, by go_num, by omega, fun i hi => ?_, fun i hi j hj => ?_, HB2.out⟩
                · by_cases ei : i = q
                  · subst ei
                    have := HVR.out (by first | rfl | trivial)
                    rw [HN.out] at this
                    exact this
                  · exact HV.out i (by omega)
                · by_cases ei : i = q
                  · subst ei
                    have := HNO.out j hj
                    rw [HN.out] at this
                    exact this
                  · exact HD.out i (by omega) j hj
              case measure => simp [intOf]; omega
      · obtain rfl : k = l0.length := by omega
        have d1 : decide ((l0.length : Int) < (l0.length : Int)) = false := decide_eq_false (by omega)
        go_wp2_with fail
        go_ret
        exact ⟨true, rfl, fun _ => ⟨HL.out, HV.out, HD.out⟩, HB.out⟩
  · have d0 : ((l0.length : Int) != (l1.length : Int)) = true := by rw [bne_iff_ne]; omega
    go_enter Try.func17, Try.ntmps17
    go_wp2_with fail
    go_ret
    exact ⟨false, rfl, (fun h => by cases h), Below.refl _ _⟩

end Go.Proofs.Ytopmkiadoacipaa.Vars

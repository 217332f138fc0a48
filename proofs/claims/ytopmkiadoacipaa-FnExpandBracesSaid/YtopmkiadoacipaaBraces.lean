/- The law FnExpandBraces: the walk. -/
import Derived.Test.YtopmkiadoacipaaLawA
namespace Go.Proofs.Ytopmkiadoacipaa.Braces
open Go.RowKit Go.Proofs.YtopmkiadoacipaaW.PrintWords Go.Proofs.Ytopmkiadoacipaa.PFnExpandMade Go.Proofs.Ytopmkiadoacipaa.Tab Go.Proofs.Ytopmkiadoacipaa.Xp

set_option maxHeartbeats 8000000 in
set_option maxRecDepth 100000 in
theorem walk (name value front back : ByteArray) (w : World) : Calls Try.prog 3 #[.string name, .string value, .string front, .string back] w fun e w' => e = .returned (.bool true) ∧ Below w.heap.size w w' := by
  by_cases l0 : name.size ≤ 2147483647
  · have d0 : decide ((name.size : Int) > 2147483647) = false := decide_eq_false (by omega)
    by_cases l1 : value.size ≤ 2147483647
    · have d1 : decide ((value.size : Int) > 2147483647) = false := decide_eq_false (by omega)
      by_cases l2 : front.size ≤ 2147483647
      · have d2 : decide ((front.size : Int) > 2147483647) = false := decide_eq_false (by omega)
        by_cases l3 : back.size ≤ 2147483647
        · have d3 : decide ((back.size : Int) > 2147483647) = false := decide_eq_false (by omega)
          by_cases he : name.toList = []
          · have hne : (name.toList == ([] : List UInt8)) = true := beq_iff_eq.mpr he
            clear he
            go_enter Try.func3, Try.ntmps3
            go_wp2_with fail
            go_ret
            exact ⟨rfl, Below.refl _ _⟩
          · have hne : (name.toList == ([] : List UInt8)) = false := by rw [beq_eq_false_iff_ne]; exact he
            have h0 : 0 < name.size := by
              rcases Nat.eq_zero_or_pos name.size with h | h
              · exact absurd (List.eq_nil_of_length_eq_zero (by rw [ByteArray.toList_eq]; simpa using h)) he
              · exact h
            clear he
            obtain ⟨b0, hb0, hn⟩ := has_some name 125 (by omega)
            obtain ⟨b2, hb2, hf⟩ := has_some front 36 (by omega)
            obtain ⟨b3, hb3, hbk⟩ := has_some back 36 (by omega)
            have HB0 := Aside0.mk hb0
            have HB2 := Aside0.mk hb2
            have HB3 := Aside0.mk hb3
            have HN := Aside0.mk hn
            have HF := Aside0.mk hf
            have HK := Aside0.mk hbk
            clear hb0 hb2 hb3 hn hf hbk
            cases b0 with
            | true =>
              go_enter Try.func3, Try.ntmps3
              go_wp2_with (go_at_call 11; (with_reducible refine (spec_ScHas.calls _ name 125 true _ HB0.out).mono ?_); rintro e w1 ⟨rfl, n1, rfl⟩)
              go_ret
              exact ⟨rfl, pw_below_drewN (Below.refl _ _) _⟩
            | false =>
              cases b2 with
              | true =>
                go_enter Try.func3, Try.ntmps3
                go_wp2_with (first
                  | (go_at_call 11; (with_reducible refine (spec_ScHas.calls _ name 125 false _ HB0.out).mono ?_); rintro e w1 ⟨rfl, n1, rfl⟩)
                  | (go_at_call 11; (with_reducible refine (spec_ScHas.calls _ front 36 true _ HB2.out).mono ?_); rintro e w2 ⟨rfl, n2, rfl⟩))
                go_ret
                exact ⟨rfl, pw_below_drewN (Below.refl _ _) _⟩
              | false =>
                cases b3 with
                | true =>
                  go_enter Try.func3, Try.ntmps3
                  go_wp2_with (first
                    | (go_at_call 11; (with_reducible refine (spec_ScHas.calls _ name 125 false _ HB0.out).mono ?_); rintro e w1 ⟨rfl, n1, rfl⟩)
                    | (go_at_call 11; (with_reducible refine (spec_ScHas.calls _ front 36 false _ HB2.out).mono ?_); rintro e w2 ⟨rfl, n2, rfl⟩)
                    | (go_at_call 11; (with_reducible refine (spec_ScHas.calls _ back 36 true _ HB3.out).mono ?_); rintro e w3 ⟨rfl, n3, rfl⟩))
                  go_ret
                  exact ⟨rfl, pw_below_drewN (Below.refl _ _) _⟩
                | false =>
                  have hex := braces_ex name value front back (by omega) h0 (HN.out rfl) (HF.out rfl) (HK.out rfl)
                  have HEX := Aside0.mk hex
                  clear hex
                  go_enter Try.func3, Try.ntmps3
                  go_wp2_with (first
                    | (go_at_call 11; (with_reducible refine (spec_ScHas.calls _ name 125 false _ HB0.out).mono ?_); rintro e w1 ⟨rfl, n1, rfl⟩)
                    | (go_at_call 11; (with_reducible refine (spec_ScHas.calls _ front 36 false _ HB2.out).mono ?_); rintro e w2 ⟨rfl, n2, rfl⟩)
                    | (go_at_call 11; (with_reducible refine (spec_ScHas.calls _ back 36 false _ HB3.out).mono ?_); rintro e w3 ⟨rfl, n3, rfl⟩))
                  have hz1 : (front ++ (⟨#[36, 123]⟩ : ByteArray) ++ name ++ (⟨#[125]⟩ : ByteArray) ++ back).size = front.size + 2 + name.size + 1 + back.size := by
                    simp only [ByteArray.size_append]; rfl
                  have hz2 : (front ++ value ++ back).size = front.size + value.size + back.size := by simp only [ByteArray.size_append]
                  (refine (impl_lits (w.drewN (n1 + n2 + n3)) [name] [value] _ (front ++ value ++ back) (by simp) (by simp) (fun s h => by rw [List.mem_singleton] at h; subst h; omega) (fun s h => by rw [List.mem_singleton] at h; subst h; omega) (by omega) (by omega) HEX.out).mono ?_)
                  rintro e w4 ⟨rfl, b4⟩
                  have HB4 := Aside0.mk (show Below w.heap.size w w4 from (pw_below_drewN (Below.refl _ _) (n1 + n2 + n3)).trans b4)
                  have hsz := HB4.out.size
                  clear b4 hz1 hz2
                  go_wp2_with fail
                  (refine (fixed_is w4).mono ?_)
                  rintro e w5 ⟨rfl, b5⟩
                  have HB5 := Aside0.mk (below_then HB4.out hsz b5)
                  clear b5
                  go_wp2_with fail
                  go_ret
                  exact ⟨rfl, HB5.out⟩
        · have d3 : decide ((back.size : Int) > 2147483647) = true := decide_eq_true (by omega)
          go_enter Try.func3, Try.ntmps3
          go_wp2_with fail
          go_ret
          exact ⟨rfl, Below.refl _ _⟩
      · have d2 : decide ((front.size : Int) > 2147483647) = true := decide_eq_true (by omega)
        go_enter Try.func3, Try.ntmps3
        go_wp2_with fail
        go_ret
        exact ⟨rfl, Below.refl _ _⟩
    · have d1 : decide ((value.size : Int) > 2147483647) = true := decide_eq_true (by omega)
      go_enter Try.func3, Try.ntmps3
      go_wp2_with fail
      go_ret
      exact ⟨rfl, Below.refl _ _⟩
  · have d0 : decide ((name.size : Int) > 2147483647) = true := decide_eq_true (by omega)
    go_enter Try.func3, Try.ntmps3
    go_wp2_with fail
    go_ret
    exact ⟨rfl, Below.refl _ _⟩

end Go.Proofs.Ytopmkiadoacipaa.Braces

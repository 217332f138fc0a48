/- The law FnExpandEach: the walk. -/
import Derived.Test.YtopmkiadoacipaaLawA
namespace Go.Proofs.Ytopmkiadoacipaa.Each
open Go.RowKit Go.Proofs.YtopmkiadoacipaaW.PrintWords Go.Proofs.Ytopmkiadoacipaa.PFnExpandMade Go.Proofs.Ytopmkiadoacipaa.Tab Go.Proofs.Ytopmkiadoacipaa.Xp

theorem variable_some (s : ByteArray) (hs : s.size ≤ 281474976710656) : ∃ b, spec_ScVariable.f (s.size + 1) s = some b ∧ (b = true → (0 < s.size ∧ (∀ j : Int, 0 ≤ j → j < s.size → aln (bt s j) = true) ∧ ¬ (48 ≤ bt s 0 ∧ bt s 0 ≤ 57))) := by
  obtain ⟨b, h1, h2⟩ := variable_tells s (by omega) s.size (s.size + 1) 0 (by omega) (by omega) (by omega) (by omega)
  exact ⟨b, h1, fun h => ⟨(h2 h).1, (h2 h).2.1, (h2 h).2.2 rfl⟩⟩

theorem no_brace {s : ByteArray} (h : ∀ j : Int, 0 ≤ j → j < s.size → aln (bt s j) = true) : ∀ j : Int, 0 ≤ j → j < s.size → bt s j ≠ 125 := fun j h1 h2 e => by
  have := h j h1 h2
  rw [e] at this
  exact absurd this (by decide)

def Vr (s : ByteArray) : Prop := 0 < s.size ∧ (∀ j : Int, 0 ≤ j → j < s.size → aln (bt s j) = true) ∧ ¬ (48 ≤ bt s 0 ∧ bt s 0 ≤ 57)

theorem tab_a (a b x y : ByteArray) (h : a ≠ b) : tabv [a, b] [x, y] a = x := by simp [tabv, tab, h]
theorem tab_b (a b x y : ByteArray) : tabv [a, b] [x, y] b = y := by simp [tabv, tab]

theorem one_ex (a b x y : ByteArray) (hs : a.size + b.size ≤ 140737488355328) (ha : Vr a) (hb : Vr b) (hab : a ≠ b) :
    Ex (tabv [a, b] [x, y]) ((⟨#[36, 123]⟩ : ByteArray) ++ a ++ (⟨#[125, 36]⟩ : ByteArray) ++ b) 0 (x ++ y) := by
  have h1 := ex_var (tabv [a, b] [x, y]) b ByteArray.empty ByteArray.empty (by simp; omega) hb.1 hb.2.1 hb.2.2 (fun h => by cases h) (ex_nil _)
  have h2 := ex_brace (tabv [a, b] [x, y]) a _ _ (by simp only [ByteArray.size_append]; have : ds.size = 1 := rfl; simp; omega) ha.1 (no_brace ha.2.1) h1
  rw [tab_a a b x y hab, tab_b] at h2
  have e1 : (⟨#[36, 123]⟩ : ByteArray) = ds ++ lb := rfl
  have e2 : (⟨#[125, 36]⟩ : ByteArray) = rb ++ ds := rfl
  rw [e1, e2]
  simpa only [ByteArray.append_assoc, ByteArray.append_empty] using h2

theorem two_ex (a b x y : ByteArray) (hs : a.size + b.size ≤ 140737488355328) (ha : Vr a) (hb : Vr b) (hab : a ≠ b) :
    Ex (tabv [a, b] [x, y]) ((⟨#[36]⟩ : ByteArray) ++ b ++ (⟨#[36]⟩ : ByteArray) ++ a) 0 (y ++ x) := by
  have h1 := ex_var (tabv [a, b] [x, y]) a ByteArray.empty ByteArray.empty (by simp; omega) ha.1 ha.2.1 ha.2.2 (fun h => by cases h) (ex_nil _)
  have h2 := ex_var (tabv [a, b] [x, y]) b _ _ (by simp only [ByteArray.size_append]; have : ds.size = 1 := rfl; simp; omega) hb.1 hb.2.1 hb.2.2 (fun _ => by
    rw [bt_left _ _ _ (by decide)]; decide) h1
  rw [tab_a a b x y hab, tab_b] at h2
  simpa only [ByteArray.append_assoc, ByteArray.append_empty] using h2

set_option maxHeartbeats 8000000 in
set_option maxRecDepth 100000 in
theorem walk (a b x y : ByteArray) (w : World) : Calls Try.prog 4 #[.string a, .string b, .string x, .string y] w fun e w' => e = .returned (.bool true) ∧ Below w.heap.size w w' := by
  by_cases l0 : a.size ≤ 2147483647
  · have d0 : decide ((a.size : Int) > 2147483647) = false := decide_eq_false (by omega)
    by_cases l1 : b.size ≤ 2147483647
    · have d1 : decide ((b.size : Int) > 2147483647) = false := decide_eq_false (by omega)
      by_cases l2 : x.size ≤ 2147483647
      · have d2 : decide ((x.size : Int) > 2147483647) = false := decide_eq_false (by omega)
        by_cases l3 : y.size ≤ 2147483647
        · have d3 : decide ((y.size : Int) > 2147483647) = false := decide_eq_false (by omega)
          obtain ⟨b0, hb0, hn⟩ := variable_some a (by omega)
          obtain ⟨b2, hb2, hf⟩ := variable_some b (by omega)
          have HB0 := Aside0.mk hb0
          have HB2 := Aside0.mk hb2
          have HN := Aside0.mk hn
          have HF := Aside0.mk hf
          clear hb0 hb2 hn hf
          cases b0 with
          | false =>
            go_enter Try.func4, Try.ntmps4
            go_wp2_with (go_at_call 13; (with_reducible refine (spec_ScVariable.calls _ a false _ HB0.out).mono ?_); rintro e w1 ⟨rfl, n1, rfl⟩)
            go_ret
            exact ⟨rfl, pw_below_drewN (Below.refl _ _) _⟩
          | true =>
            cases b2 with
            | false =>
              go_enter Try.func4, Try.ntmps4
              go_wp2_with (first
                | (go_at_call 13; (with_reducible refine (spec_ScVariable.calls _ a true _ HB0.out).mono ?_); rintro e w1 ⟨rfl, n1, rfl⟩)
                | (go_at_call 13; (with_reducible refine (spec_ScVariable.calls _ b false _ HB2.out).mono ?_); rintro e w2 ⟨rfl, n2, rfl⟩))
              go_ret
              exact ⟨rfl, pw_below_drewN (Below.refl _ _) _⟩
            | true =>
              have va : Vr a := HN.out rfl
              have vb : Vr b := HF.out rfl
              by_cases hab : a = b
              · subst hab
                have hnn : (a.toList == a.toList) = true := beq_self_eq_true _
                clear va vb
                go_enter Try.func4, Try.ntmps4
                go_wp2_with (first
                  | (go_at_call 13; (with_reducible refine (spec_ScVariable.calls _ a true _ HB0.out).mono ?_); rintro e w1 ⟨rfl, n1, rfl⟩))
                go_ret
                exact ⟨rfl, pw_below_drewN (Below.refl _ _) _⟩
              · have hnn : (a.toList == b.toList) = false := by
                  rw [beq_eq_false_iff_ne]
                  intro h
                  rw [ByteArray.toList_eq, ByteArray.toList_eq] at h
                  exact hab (bytes_of_list h)
                have HX1 := Aside0.mk (one_ex a b x y (by omega) va vb hab)
                have HX2 := Aside0.mk (two_ex a b x y (by omega) va vb hab)
                clear va vb hab
                have hz1 : ((⟨#[36, 123]⟩ : ByteArray) ++ a ++ (⟨#[125, 36]⟩ : ByteArray) ++ b).size = 2 + a.size + 2 + b.size := by simp only [ByteArray.size_append]; rfl
                have hz2 : ((⟨#[36]⟩ : ByteArray) ++ b ++ (⟨#[36]⟩ : ByteArray) ++ a).size = 1 + b.size + 1 + a.size := by simp only [ByteArray.size_append]; rfl
                have hz3 : (x ++ y).size = x.size + y.size := ByteArray.size_append
                have hz4 : (y ++ x).size = y.size + x.size := ByteArray.size_append
                have hm : ∀ (p q : ByteArray), p.size ≤ 2147483647 → q.size ≤ 2147483647 → ∀ s ∈ [p, q], s.size ≤ 281474976710656 := fun p q h1 h2 s h => by
                  rcases List.mem_cons.1 h with e | h
                  · subst e; omega
                  · rw [List.mem_singleton] at h; subst h; omega
                have HM0 := Aside0.mk (hm a b l0 l1)
                have HM1 := Aside0.mk (hm x y l2 l3)
                have HZ := Aside0.mk (And.intro hz1 (And.intro hz2 (And.intro hz3 hz4)))
                clear hm hz1 hz2 hz3 hz4
                go_enter Try.func4, Try.ntmps4
                go_wp2_with (first
                  | (go_at_call 13; (with_reducible refine (spec_ScVariable.calls _ a true _ HB0.out).mono ?_); rintro e w1 ⟨rfl, n1, rfl⟩)
                  | (go_at_call 13; (with_reducible refine (spec_ScVariable.calls _ b true _ HB2.out).mono ?_); rintro e w2 ⟨rfl, n2, rfl⟩))
                (refine (impl_lits (w.drewN (n1 + n2)) [a, b] [x, y] _ (x ++ y) (by simp) (by simp) HM0.out HM1.out (by have := HZ.out; omega) (by have := HZ.out; omega) HX1.out).mono ?_)
                rintro e w4 ⟨rfl, b4⟩
                have HB4 := Aside0.mk (show Below w.heap.size w w4 from (pw_below_drewN (Below.refl _ _) (n1 + n2)).trans b4)
                have hsz := HB4.out.size
                clear b4
                go_wp2_with fail
                (refine (impl_lits w4 [a, b] [x, y] _ (y ++ x) (by simp) (by simp) HM0.out HM1.out (by have := HZ.out; omega) (by have := HZ.out; omega) HX2.out).mono ?_)
                rintro e w5 ⟨rfl, b5⟩
                have HB5 := Aside0.mk (below_then HB4.out hsz b5)
                clear b5
                go_wp2_with fail
                go_ret
                exact ⟨rfl, HB5.out⟩
        · have d3 : decide ((y.size : Int) > 2147483647) = true := decide_eq_true (by omega)
          go_enter Try.func4, Try.ntmps4
          go_wp2_with fail
          go_ret
          exact ⟨rfl, Below.refl _ _⟩
      · have d2 : decide ((x.size : Int) > 2147483647) = true := decide_eq_true (by omega)
        go_enter Try.func4, Try.ntmps4
        go_wp2_with fail
        go_ret
        exact ⟨rfl, Below.refl _ _⟩
    · have d1 : decide ((b.size : Int) > 2147483647) = true := decide_eq_true (by omega)
      go_enter Try.func4, Try.ntmps4
      go_wp2_with fail
      go_ret
      exact ⟨rfl, Below.refl _ _⟩
  · have d0 : decide ((a.size : Int) > 2147483647) = true := decide_eq_true (by omega)
    go_enter Try.func4, Try.ntmps4
    go_wp2_with fail
    go_ret
    exact ⟨rfl, Below.refl _ _⟩

end Go.Proofs.Ytopmkiadoacipaa.Each

/- The walk of the Go function laws.FnShellNameBraces: for every name and every text behind it the call returns true. No condition but the lengths that every argument has (2^47 - 4096 bytes at most). -/
import Derived.Test.YtcblhkcdolaigaaBracesPlain
namespace Go.Proofs.Ytcblhkcdolaigaa.Braces
open Go.RowKit Go.Proofs.Ytcblhkcdolaigaa.PFnShellNameBraces Go.Proofs.YtcblhkcdolaigaaW.PrintWords Go.Proofs.YtcblhkcdolaigaaW.PrintLast

set_option maxHeartbeats 1000000 in
theorem walk (a b : ByteArray) (w : World) (h1 : a.size ≤ 140737488351232) (h2 : b.size ≤ 140737488351232) :
    Calls Try.prog 7 #[.string a, .string b] w fun e w' => e = .returned (.bool true) ∧ Drawn0 w w' := by
  by_cases c1 : (2147483647 : Int) < (a.size : Int)
  · have d1 : decide (2147483647 < (a.size : Int)) = true := decide_eq_true c1
    go_enter Try.func7, Try.ntmps7
    go_wp2_with fail
    go_ret
    exact ⟨rfl, by repeat (first | exact Drawn0.refl _ | apply Drawn0.step)⟩
  have d1 : decide (2147483647 < (a.size : Int)) = false := decide_eq_false c1
  by_cases c2 : (2147483647 : Int) < (b.size : Int)
  · have d2 : decide (2147483647 < (b.size : Int)) = true := decide_eq_true c2
    go_enter Try.func7, Try.ntmps7
    go_wp2_with fail
    go_ret
    exact ⟨rfl, by repeat (first | exact Drawn0.refl _ | apply Drawn0.step)⟩
  have d2 : decide (2147483647 < (b.size : Int)) = false := decide_eq_false c2
  by_cases c3 : a.toList = []
  · have c3b : (a.toList == ([] : List UInt8)) = true := beq_iff_eq.mpr c3
    have c3c : a.toList.isEmpty = true := by simp [c3]
    clear c3
    go_enter Try.func7, Try.ntmps7
    go_wp2_with fail
    go_ret
    exact ⟨rfl, by repeat (first | exact Drawn0.refl _ | apply Drawn0.step)⟩
  have c3b : (a.toList == ([] : List UInt8)) = false := beq_eq_false_iff_ne.mpr c3
  have hp : 0 < a.size := by
    rcases Nat.eq_zero_or_pos a.size with h | h
    · exact absurd (List.eq_nil_of_length_eq_zero (by rw [ByteArray.toList_eq]; simpa using h)) c3
    · exact h
  clear c3
  obtain ⟨t, ht, hv⟩ := has_tells a 125 (by omega) a.size (a.size + 2) 0 (by omega) (by omega) (by omega) (by omega)
  cases t with
  | true =>
    have HT := Aside0.mk (show spec_ScHas.f (a.size + 2) a 125 = some true from ht)
    clear ht hv
    go_enter Try.func7, Try.ntmps7
    go_wp2_with (go_at_call 21; (with_reducible refine (spec_ScHas.calls (a.size + 2) a 125 true _ HT.out).mono ?_); rintro e w' ⟨rfl, ⟨nd, rfl⟩⟩)
    go_ret
    exact ⟨rfl, by repeat (first | exact Drawn0.refl _ | apply Drawn0.step)⟩
  | false =>
    have HT := Aside0.mk (show spec_ScHas.f (a.size + 2) a 125 = some false from ht)
    have HN := Aside0.mk (name_is a b (by omega) hp (fun j h0 hj => hv rfl j h0 hj) (a.size + 2) (by omega))
    clear ht hv
    go_enter Try.func7, Try.ntmps7
    go_wp2_with (go_at_call 21; (with_reducible refine (spec_ScHas.calls (a.size + 2) a 125 false _ HT.out).mono ?_); rintro e w' ⟨rfl, ⟨nd, rfl⟩⟩)
    (with_reducible refine (impl_ShellName.calls (a.size + 2) (((lb ++ a) ++ rb) ++ b) a ((a.size : Int) + 2) _ HN.out).mono ?_)
    rintro e w' ⟨rfl, ⟨ne, rfl⟩⟩
    go_wp2_with fail
    go_ret
    exact ⟨by simp, by repeat (first | exact Drawn0.refl _ | apply Drawn0.step)⟩

end Go.Proofs.Ytcblhkcdolaigaa.Braces

/- The Go function laws.FnSignSize, as printed to plain Lean, answers true for every whole number n of 64 bits and every text id: what the program computes as the length of a signature is the sum of its parts. No condition. -/
import Derived.Test.YtcblhkcdolaigaaPFnSignSizex1
namespace Go.Proofs.Ytcblhkcdolaigaa.Pure
open Go.RowKit Go.Proofs.Ytcblhkcdolaigaa.PFnSignSize Go.Proofs.YtcblhkcdolaigaaW.PrintWords Go.Proofs.YtcblhkcdolaigaaW.PrintLast

theorem size_plain (x : Int) (s : Int) (h0 : 0 ≤ x) (h1 : x ≤ 1125899906842624) (_s0 : 0 ≤ s) (_s1 : s ≤ 2147483647) :
    wrap64 (20 + (wrap64 ((wrap64 (88 + (wrap64 (s + 1)))) + (wrap64 ((wrap64 (Int.tdiv (wrap64 ((wrap64 (x + 4096)) - 1)) 4096)) * 32)))))
      = wrap64 ((wrap64 ((wrap64 (108 + s)) + 1)) + (wrap64 (32 * (wrap64 (Int.tdiv (wrap64 ((wrap64 (x + 4096)) - 1)) 4096))))) := by
  have e1 : wrap64 (x + 4096) = x + 4096 := by unfold wrap64; omega
  have e2 : wrap64 (x + 4096 - 1) = x + 4095 := by unfold wrap64; omega
  have e3 : Int.tdiv (x + 4095) 4096 = (x + 4095) / 4096 := Int.tdiv_eq_ediv_of_nonneg (by omega)
  rw [e1, e2, e3]
  unfold wrap64
  omega

theorem FnSignSize : laws_FnSignSize.Pure := by
  intro n s _ _
  refine ⟨1, ?_⟩
  unfold laws_FnSignSize.f
  by_cases h1 : (s.size : Int) > 2147483647
  · rw [if_pos h1]
  rw [if_neg h1]
  by_cases h2 : n < 0
  · rw [if_pos h2]; simp only [laws_FnSignSize.j0, if_true]
  rw [if_neg h2]
  by_cases h3 : n > 1125899906842624
  · simp only [laws_FnSignSize.j0]; rw [if_pos (by simpa using h3)]
  simp only [laws_FnSignSize.j0]; rw [if_neg (by simpa using h3)]
  have e := size_plain n (s.size : Int) (by omega) (by omega) (by omega) (by omega)
  simp only [impl_SignatureSize.f, codesign_Size.f, spec_Size.f, spec_Pages.f, Option.bind_some]
  rw [e]; simp

end Go.Proofs.Ytcblhkcdolaigaa.Pure

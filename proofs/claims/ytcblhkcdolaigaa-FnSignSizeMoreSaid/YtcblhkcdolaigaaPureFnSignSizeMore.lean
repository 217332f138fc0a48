/- The Go function laws.FnSignSizeMore, as printed to plain Lean, answers true for every whole number n of 64 bits and every text id: with a page more the length of a signature grows by 32, with a byte more in the identifier by one, and it is positive. No condition. -/
import Derived.Test.YtcblhkcdolaigaaPFnSignSizeMorex1
namespace Go.Proofs.Ytcblhkcdolaigaa.Pure
open Go.RowKit Go.Proofs.Ytcblhkcdolaigaa.PFnSignSizeMore Go.Proofs.YtcblhkcdolaigaaW.PrintWords Go.Proofs.YtcblhkcdolaigaaW.PrintLast

theorem size_more_plain (x : Int) (s : Int) (h0 : 0 ≤ x) (h1 : x ≤ 1125899906846720) (s0 : 0 ≤ s) (s1 : s ≤ 2147483648) :
    wrap64 (20 + (wrap64 ((wrap64 (88 + (wrap64 (s + 1)))) + (wrap64 ((wrap64 (Int.tdiv (wrap64 ((wrap64 (x + 4096)) - 1)) 4096)) * 32)))))
      = 109 + s + 32 * ((x + 4095) / 4096) := by
  have e1 : wrap64 (x + 4096) = x + 4096 := by unfold wrap64; omega
  have e2 : wrap64 (x + 4096 - 1) = x + 4095 := by unfold wrap64; omega
  have e3 : Int.tdiv (x + 4095) 4096 = (x + 4095) / 4096 := Int.tdiv_eq_ediv_of_nonneg (by omega)
  rw [e1, e2, e3]
  unfold wrap64
  omega

theorem size_is (x : Int) (s : ByteArray) (h0 : 0 ≤ x) (h1 : x ≤ 1125899906846720) (s1 : (s.size : Int) ≤ 2147483648) :
    impl_SignatureSize.f x s = some (109 + (s.size : Int) + 32 * ((x + 4095) / 4096)) := by
  simp only [impl_SignatureSize.f, codesign_Size.f, Option.bind_some]
  rw [size_more_plain x s.size h0 h1 (by omega) s1]

theorem FnSignSizeMore : laws_FnSignSizeMore.Pure := by
  intro n s _ hs
  refine ⟨1, ?_⟩
  unfold laws_FnSignSizeMore.f
  by_cases h1 : (s.size : Int) > 2147483647
  · rw [if_pos h1]
  rw [if_neg h1]
  by_cases h2 : n < 0
  · rw [if_pos h2]; simp only [laws_FnSignSizeMore.j0, if_true]
  rw [if_neg h2]
  by_cases h3 : n > 1125899906842624
  · simp only [laws_FnSignSizeMore.j0]; rw [if_pos (by simpa using h3)]
  simp only [laws_FnSignSizeMore.j0]; rw [if_neg (by simpa using h3)]
  have e0 : wrap64 (n + 4096) = n + 4096 := by unfold wrap64; omega
  have hz : (s ++ (⟨#[120]⟩ : ByteArray)).size = s.size + 1 := by rw [ByteArray.size_append]; rfl
  have hz' : ((s ++ (⟨#[120]⟩ : ByteArray)).size : Int) = (s.size : Int) + 1 := by omega
  rw [e0, size_is n s (by omega) (by omega) (by omega), size_is (n + 4096) s (by omega) (by omega) (by omega),
    size_is n (s ++ (⟨#[120]⟩ : ByteArray)) (by omega) (by omega) (by omega)]
  simp only [Option.bind_some]
  rw [hz']
  rw [if_pos (by unfold wrap64; omega), if_pos (by omega), if_pos (by unfold wrap64; omega)]
  simp
  omega

end Go.Proofs.Ytcblhkcdolaigaa.Pure

/- Lists of texts that came in: what zzFits3 says of them; a list that is read, in the other word. -/
import Derived.Test.YtopmkiadoacipaaLawA
namespace Go.Proofs.Ytopmkiadoacipaa.Xp
open Go.RowKit Go.Proofs.YtopmkiadoacipaaW.PrintWords Go.Proofs.Ytopmkiadoacipaa.PFnExpandMade Go.Proofs.Ytopmkiadoacipaa.Tab

theorem rd_of {w : World} {A : Option Addr} {l : List ByteArray} (h : Kd.C Kd.string w A l.length l) : Rd w A l.length l := Kd.reads_of_C (enc := Value.string) (d := ByteArray.empty) (h1 := fun _ => rfl) h

theorem rdOf_at (l : List ByteArray) (i : Nat) (h : i < l.length) : rdOf ByteArray.empty l (i : Int) = l[i] := by
  simp [rdOf, List.getD_eq_getElem?_getD, h]

theorem fits (l : List ByteArray) (hl : l.length ≤ 562949953421312) (d : Nat) : ∀ (k i : Nat), i ≤ l.length → l.length - i = d → d < k →
    ∃ b, laws_zzFits3.l0 k l (l.length : Int) (i : Int) = some b ∧ (b = true → ∀ j, i ≤ j → ∀ h : j < l.length, l[j].size ≤ 2147483647) := by
  induction d with
  | zero =>
    intro k i h1 hd hk
    obtain ⟨k, rfl⟩ : ∃ m, k = m + 1 := ⟨k - 1, by omega⟩
    exact ⟨true, by simp only [laws_zzFits3.l0]; rw [if_neg (by omega)], fun _ j _ _ => by omega⟩
  | succ d ih =>
    intro k i h1 hd hk
    obtain ⟨k, rfl⟩ : ∃ m, k = m + 1 := ⟨k - 1, by omega⟩
    obtain ⟨b, hb, ht⟩ := ih k (i + 1) (by omega) (by omega) (by omega)
    simp only [laws_zzFits3.l0]
    rw [if_pos (by omega), if_pos (by omega), if_pos (by omega)]
    by_cases e : ((rdOf ByteArray.empty l (i : Int)).size : Int) > 2147483647
    · exact ⟨false, by rw [if_pos e], fun h => by cases h⟩
    · refine ⟨b, ?_, fun hbt j h1 h2 => ?_⟩
      · rw [if_neg e, wrap_next (n := l.length) (by omega) (by omega) (by omega)]
        exact hb
      · by_cases ej : j = i
        · subst ej
          rw [rdOf_at l j h2] at e
          omega
        · exact ht hbt j (by omega) h2

theorem fits_some (l : List ByteArray) : ∃ b, laws_zzFits3.f (l.length + 1) l = some b ∧ (b = true → l.length ≤ 2147483647 ∧ ∀ s ∈ l, s.size ≤ 2147483647) := by
  unfold laws_zzFits3.f
  by_cases e : (l.length : Int) > 2147483647
  · exact ⟨false, by rw [if_pos e], fun h => by cases h⟩
  · obtain ⟨b, hb, ht⟩ := fits l (by omega) l.length (l.length + 1) 0 (by omega) (by omega) (by omega)
    refine ⟨b, by rw [if_neg e]; exact hb, fun h => ⟨by omega, fun s hs => ?_⟩⟩
    obtain ⟨i, hi, rfl⟩ := List.getElem_of_mem hs
    exact ht h i (Nat.zero_le _) hi

end Go.Proofs.Ytopmkiadoacipaa.Xp

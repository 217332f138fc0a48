/- The Go function laws.FnShellName, as printed to plain Lean, answers true for every name and every text behind it: a name of letters, digits and underscores in front of a text is read whole. No condition. -/
import Derived.Test.YtcblhkcdolaigaaPFnShellNamex3
namespace Go.Proofs.Ytcblhkcdolaigaa.Pure
open Go.RowKit Go.Proofs.Ytcblhkcdolaigaa.PFnShellName Go.Proofs.YtcblhkcdolaigaaW.PrintWords Go.Proofs.YtcblhkcdolaigaaW.PrintLast

/-- a letter, a digit or an underscore -/
def aln (c : Int) : Bool := decide ((97 ≤ c ∧ c ≤ 122) ∨ (65 ≤ c ∧ c ≤ 90) ∨ (48 ≤ c ∧ c ≤ 57) ∨ c = 95)

theorem alnum_is (c : Int) : spec_ScAlnum.f c = some (aln c) := by
  unfold spec_ScAlnum.f aln
  repeat' split
  all_goals rw [Option.some.injEq]
  all_goals first
    | exact (decide_eq_true (by omega)).symm
    | (by_cases e : c = 95
       · subst e; rfl
       · rw [decide_eq_false (by omega)]; simp [e])

theorem alphanum_is (c : Int) : osexpand_isAlphaNum.f c = some (aln c) := by
  unfold osexpand_isAlphaNum.f aln
  repeat' split
  all_goals rw [Option.some.injEq]
  all_goals first
    | exact (decide_eq_true (by omega)).symm
    | exact (decide_eq_false (by omega)).symm
    | (congr 1; apply propext; omega)

theorem special_no (c : Int) (h : aln c = true) (hd : ¬ (48 ≤ c ∧ c ≤ 57)) : osexpand_isShellSpecialVar.f c = some false := by
  have h' : (97 ≤ c ∧ c ≤ 122) ∨ (65 ≤ c ∧ c ≤ 90) ∨ (48 ≤ c ∧ c ≤ 57) ∨ c = 95 := by simpa [aln] using h
  unfold osexpand_isShellSpecialVar.f
  repeat (rw [if_neg (by omega)])

theorem wrap_next {i : Int} {n : Nat} (h0 : 0 ≤ i) (h : i < (n : Int)) (hn : n ≤ 281474976710656) : wrap64 (i + 1) = i + 1 := by
  unfold wrap64
  omega

/-- what ScVariable says, from place i on -/
theorem variable_tells (s : ByteArray) (hn : s.size ≤ 281474976710656) (d : Nat) : ∀ (k : Nat) (i : Int), 0 ≤ i → i ≤ s.size → (s.size : Int) - i = d → d < k →
    ∃ b, spec_ScVariable.l0 k s i = some b ∧ (b = true → (0 < s.size ∧ (∀ j : Int, i ≤ j → j < s.size → aln (bt s j) = true) ∧ (i = 0 → ¬ (48 ≤ bt s 0 ∧ bt s 0 ≤ 57)))) := by
  induction d with
  | zero =>
    intro k i h0 h1 hd hk
    obtain ⟨k, rfl⟩ : ∃ m, k = m + 1 := ⟨k - 1, by omega⟩
    refine ⟨decide ((s.size : Int) > 0), by simp only [spec_ScVariable.l0]; rw [if_neg (by omega)], ?_⟩
    intro hb
    have hb' : (s.size : Int) > 0 := by simpa using hb
    exact ⟨by omega, fun j _ _ => by omega, fun _ => by omega⟩
  | succ d ih =>
    intro k i h0 h1 hd hk
    obtain ⟨k, rfl⟩ : ∃ m, k = m + 1 := ⟨k - 1, by omega⟩
    have hlt : i < (s.size : Int) := by omega
    obtain ⟨b, hb, ht⟩ := ih k (i + 1) (by omega) (by omega) (by omega) (by omega)
    have hw := wrap_next h0 hlt hn
    simp only [spec_ScVariable.l0]
    rw [if_pos hlt, if_pos h0, alnum_is]
    simp only [Option.bind_some]
    rw [hw, hb]
    by_cases ha : aln (bt s i) = true
    · rw [if_pos ha]
      have go : ¬ (i = 0 ∧ 48 ≤ bt s i ∧ bt s i ≤ 57) → (b = true → (0 < s.size ∧ (∀ j : Int, i ≤ j → j < s.size → aln (bt s j) = true) ∧ (i = 0 → ¬ (48 ≤ bt s 0 ∧ bt s 0 ≤ 57)))) := by
        intro hno hbt
        obtain ⟨g1, g2, _⟩ := ht hbt
        refine ⟨g1, ?_, ?_⟩
        · intro j hj hjs
          by_cases e : j = i
          · subst e; exact ha
          · exact g2 j (by omega) hjs
        · intro e; subst e; intro hh; exact hno ⟨rfl, hh⟩
      by_cases e0 : i = 0
      · rw [if_pos e0]
        by_cases e1 : bt s i ≥ 48
        · rw [if_pos e1]
          by_cases e2 : bt s i ≤ 57
          · rw [if_pos e2]; exact ⟨false, rfl, fun h => by cases h⟩
          · rw [if_neg e2]; exact ⟨b, rfl, go (by omega)⟩
        · rw [if_neg e1]; exact ⟨b, rfl, go (by omega)⟩
      · rw [if_neg e0]; exact ⟨b, rfl, go (by omega)⟩
    · rw [if_neg ha]; exact ⟨false, rfl, fun h => by cases h⟩

/-- the scan of letters stands still at the first byte that is none -/
theorem scan_is (s : ByteArray) (hs : s.size ≤ 281474976710656) (n : Nat) (hn : n ≤ s.size) (ha : ∀ j : Int, 0 ≤ j → j < n → aln (bt s j) = true)
    (hb : n < s.size → aln (bt s n) = false) (d : Nat) : ∀ (k : Nat) (i : Int), 0 ≤ i → i ≤ n → (n : Int) - i = d → d < k →
    osexpand_getShellName.l1 k s i = some (s.extract 0 n, (n : Int)) := by
  induction d with
  | zero =>
    intro k i h0 h1 hd hk
    obtain ⟨k, rfl⟩ : ∃ m, k = m + 1 := ⟨k - 1, by omega⟩
    obtain rfl : i = (n : Int) := by omega
    simp only [osexpand_getShellName.l1]
    by_cases hlt : (n : Int) < (s.size : Int)
    · rw [if_pos hlt, if_pos h0, alphanum_is]
      simp only [Option.bind_some]
      rw [hb (by omega), if_neg (by simp), if_pos (by omega)]
      simp
    · rw [if_neg hlt, if_pos h0, if_pos (by omega)]
      simp
  | succ d ih =>
    intro k i h0 h1 hd hk
    obtain ⟨k, rfl⟩ : ∃ m, k = m + 1 := ⟨k - 1, by omega⟩
    have hlt : i < (s.size : Int) := by omega
    simp only [osexpand_getShellName.l1]
    rw [if_pos hlt, if_pos h0, alphanum_is]
    simp only [Option.bind_some]
    rw [ha i h0 (by omega), if_pos rfl, wrap_next h0 hlt hs]
    exact ih k (i + 1) (by omega) (by omega) (by omega) (by omega)

theorem bt_left (a b : ByteArray) (i : Int) (h : i.toNat < a.size) : bt (a ++ b) i = bt a i := by
  have h' : i.toNat < (a ++ b).size := by rw [ByteArray.size_append]; omega
  unfold bt
  rw [dif_pos h', dif_pos h, ByteArray.getElem_append_left h]

theorem bt_right (a b : ByteArray) (i j : Int) (h : i.toNat = a.size + j.toNat) : bt (a ++ b) i = bt b j := by
  unfold bt
  by_cases hj : j.toNat < b.size
  · have h' : i.toNat < (a ++ b).size := by rw [ByteArray.size_append]; omega
    rw [dif_pos h', dif_pos hj, ByteArray.getElem_append_right (by omega)]
    simp [h]
  · have h' : ¬ i.toNat < (a ++ b).size := by rw [ByteArray.size_append]; omega
    rw [dif_neg h', dif_neg hj]

theorem name_is (a b : ByteArray) (hs : (a ++ b).size ≤ 281474976710656) (h0 : 0 < a.size) (ha : ∀ j : Int, 0 ≤ j → j < a.size → aln (bt a j) = true)
    (hd : ¬ (48 ≤ bt a 0 ∧ bt a 0 ≤ 57)) (hb : 0 < b.size → aln (bt b 0) = false) (k : Nat) (hk : a.size < k) :
    impl_ShellName.f k (a ++ b) = some (a, (a.size : Int)) := by
  have hz : (a ++ b).size = a.size + b.size := ByteArray.size_append
  have hl : ∀ j : Int, 0 ≤ j → j < a.size → bt (a ++ b) j = bt a j := fun j _ _ => bt_left a b j (by omega)
  have h00 : bt (a ++ b) 0 = bt a 0 := hl 0 (by omega) (by omega)
  have a0 := ha 0 (by omega) (by omega)
  have a0' : (97 ≤ bt a 0 ∧ bt a 0 ≤ 122) ∨ (65 ≤ bt a 0 ∧ bt a 0 ≤ 90) ∨ (48 ≤ bt a 0 ∧ bt a 0 ≤ 57) ∨ bt a 0 = 95 := by simpa [aln] using a0
  have hsc := scan_is (a ++ b) hs a.size (by omega) (fun j h1 h2 => by rw [hl j h1 h2]; exact ha j h1 h2)
    (fun hlt => by rw [bt_right a b (a.size : Int) 0 (by simp)]; exact hb (by omega)) a.size k 0 (by omega) (by omega) (by omega) hk
  rw [ByteArray.extract_append_eq_left rfl] at hsc
  unfold impl_ShellName.f osexpand_ZZShellName.f osexpand_getShellName.f
  rw [if_pos (by omega), h00, if_neg (by omega), special_no _ a0 hd]
  simp only [Option.bind_some]
  rw [if_neg (by simp), hsc]
  rfl

theorem length_bytes (s : ByteArray) : s.toList.length = s.size := by rw [ByteArray.toList_eq]; simp

theorem FnShellName : laws_FnShellName.Pure := by
  intro a b h1 h2
  refine ⟨a.size + 2, ?_⟩
  unfold laws_FnShellName.f
  by_cases g1 : (a.size : Int) > 2147483647
  · rw [if_pos g1]; simp only [laws_FnShellName.j0, if_true]
  rw [if_neg g1]
  by_cases g2 : (b.size : Int) > 2147483647
  · rw [decide_eq_true g2]; simp only [laws_FnShellName.j0, if_true]
  rw [decide_eq_false g2]
  simp only [laws_FnShellName.j0]
  rw [if_neg (by simp)]
  obtain ⟨t, ht, hv⟩ := variable_tells a (by omega) a.size (a.size + 1) 0 (by omega) (by omega) (by omega) (by omega)
  rw [show spec_ScVariable.f (a.size + 1) a = some t from ht]
  simp only [Option.bind_some]
  cases t with
  | false => rw [if_neg (by simp)]
  | true =>
  have e : true = true := rfl
  rw [if_pos e]
  obtain ⟨v1, v2, v3⟩ := hv e
  have hz : (a ++ b).size = a.size + b.size := ByteArray.size_append
  by_cases eb : b.toList = []
  · have hb0 : b.size = 0 := by
      rw [← length_bytes, eb]; rfl
    rw [if_pos eb, if_pos (by omega), name_is a b (by omega) v1 (fun j _ hj => v2 j (by omega) hj) (v3 rfl) (fun h => by omega) _ (by omega)]
    simp
  · have hb0 : 0 < b.size := by
      rcases Nat.eq_zero_or_pos b.size with h | h
      · exact absurd (List.eq_nil_of_length_eq_zero (by rw [length_bytes]; exact h)) eb
      · exact h
    rw [if_neg eb, if_pos (by omega), alnum_is]
    simp only [Option.bind_some]
    by_cases e2 : aln (bt b 0) = true
    · rw [if_pos e2]
    · rw [if_neg e2, if_pos (by omega), name_is a b (by omega) v1 (fun j _ hj => v2 j (by omega) hj) (v3 rfl) (fun _ => by simpa using e2) _ (by omega)]
      simp

end Go.Proofs.Ytcblhkcdolaigaa.Pure

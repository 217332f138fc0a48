/- What the printed functions spec.ScHas and impl.ShellName answer where a name stands in braces: the name, and its length and two. No condition but bounds on the lengths. -/
import Derived.Test.YtcblhkcdolaigaaPFnShellNameBracesx2
namespace Go.Proofs.Ytcblhkcdolaigaa.Braces
open Go.RowKit Go.Proofs.Ytcblhkcdolaigaa.PFnShellNameBraces Go.Proofs.YtcblhkcdolaigaaW.PrintWords Go.Proofs.YtcblhkcdolaigaaW.PrintLast

theorem wrap_next {i : Int} {n : Nat} (h0 : 0 ≤ i) (h : i < (n : Int)) (hn : n ≤ 562949953421312) : wrap64 (i + 1) = i + 1 := by
  unfold wrap64
  omega

theorem has_tells (s : ByteArray) (c : Int) (hn : s.size ≤ 562949953421312) (d : Nat) : ∀ (k : Nat) (i : Int), 0 ≤ i → i ≤ s.size → (s.size : Int) - i = d → d < k →
    ∃ b, spec_ScHas.l0 k s c i = some b ∧ (b = false → ∀ j : Int, i ≤ j → j < s.size → bt s j ≠ c) := by
  induction d with
  | zero =>
    intro k i h0 h1 hd hk
    obtain ⟨k, rfl⟩ : ∃ m, k = m + 1 := ⟨k - 1, by omega⟩
    exact ⟨false, by simp only [spec_ScHas.l0]; rw [if_neg (by omega)], fun _ j _ _ => by omega⟩
  | succ d ih =>
    intro k i h0 h1 hd hk
    obtain ⟨k, rfl⟩ : ∃ m, k = m + 1 := ⟨k - 1, by omega⟩
    have hlt : i < (s.size : Int) := by omega
    obtain ⟨b, hb, ht⟩ := ih k (i + 1) (by omega) (by omega) (by omega) (by omega)
    simp only [spec_ScHas.l0]
    rw [if_pos hlt, if_pos h0, wrap_next h0 hlt hn]
    by_cases e : bt s i = c
    · rw [if_pos e]; exact ⟨true, rfl, fun h => by cases h⟩
    · rw [if_neg e]
      refine ⟨b, hb, fun hbf j hj hjs => ?_⟩
      by_cases ej : j = i
      · subst ej; exact e
      · exact ht hbf j (by omega) hjs

/-- the scan for the brace that closes -/
theorem brace_is (s : ByteArray) (hs : s.size ≤ 562949953421312) (n : Nat) (h2 : 2 ≤ n) (hn : n < s.size) (ha : ∀ j : Int, 1 ≤ j → j < n → bt s j ≠ 125)
    (hb : bt s n = 125) (d : Nat) : ∀ (k : Nat) (i : Int), 1 ≤ i → i ≤ n → (n : Int) - i = d → d < k →
    osexpand_getShellName.l0 k s i = some (s.extract 1 n, (n : Int) + 1) := by
  induction d with
  | zero =>
    intro k i h0 h1 hd hk
    obtain ⟨k, rfl⟩ : ∃ m, k = m + 1 := ⟨k - 1, by omega⟩
    obtain rfl : i = (n : Int) := by omega
    simp only [osexpand_getShellName.l0]
    rw [if_pos (by omega), if_pos (by omega), if_pos hb, if_neg (by omega), if_pos (by omega), if_pos (by omega), wrap_next (n := s.size) (by omega) (by omega) hs]
    simp
  | succ d ih =>
    intro k i h0 h1 hd hk
    obtain ⟨k, rfl⟩ : ∃ m, k = m + 1 := ⟨k - 1, by omega⟩
    have hlt : i < (s.size : Int) := by omega
    simp only [osexpand_getShellName.l0]
    rw [if_pos hlt, if_pos (by omega), if_neg (ha i h0 (by omega)), wrap_next (by omega) hlt hs]
    exact ih k (i + 1) (by omega) (by omega) (by omega) (by omega)

theorem bt_left (a b : ByteArray) (i : Int) (h : i.toNat < a.size) : bt (a ++ b) i = bt a i := by
  have h' : i.toNat < (a ++ b).size := by rw [ByteArray.size_append]; omega
  unfold bt
  rw [dif_pos h', dif_pos h, ByteArray.getElem_append_left h]

theorem bt_right (a b : ByteArray) (i j : Int) (h : i.toNat = a.size + j.toNat) : bt (a ++ b) i = bt b j := by
  unfold bt
  by_cases hj : j.toNat < b.size
  · have h' : i.toNat < (a ++ b).size := by rw [ByteArray.size_append]; omega
    rw [dif_pos h', dif_pos hj, ByteArray.getElem_append_right (by omega)]
    simp [h]
  · have h' : ¬ i.toNat < (a ++ b).size := by rw [ByteArray.size_append]; omega
    rw [dif_neg h', dif_neg hj]

theorem ext_left (x y : ByteArray) (i j : Nat) (h : j ≤ x.size) : (x ++ y).extract i j = x.extract i j := by
  rw [ByteArray.extract_append]
  have e : y.extract (i - x.size) (j - x.size) = ByteArray.empty := by
    rw [show j - x.size = 0 from by omega]
    simp
  rw [e]; simp

theorem ite_ex {c : Prop} [Decidable c] {a : Bool} {o : Option Bool} (h : ∃ x, o = some x) : ∃ x, (if c then some a else o) = some x := by
  by_cases hc : c
  · exact ⟨a, if_pos hc⟩
  · rw [if_neg hc]; exact h

abbrev lb : ByteArray := ⟨#[123]⟩
abbrev rb : ByteArray := ⟨#[125]⟩

theorem name_is (a b : ByteArray) (hs : a.size + b.size ≤ 281474976710656) (h0 : 0 < a.size) (ha : ∀ j : Int, 0 ≤ j → j < a.size → bt a j ≠ 125) (k : Nat) (hk : a.size + 1 < k) :
    impl_ShellName.f k (((lb ++ a) ++ rb) ++ b) = some (a, (a.size : Int) + 2) := by
  have hl1 : lb.size = 1 := rfl
  have hr1 : rb.size = 1 := rfl
  have hz1 : (lb ++ a).size = 1 + a.size := by rw [ByteArray.size_append, hl1]
  have hz2 : ((lb ++ a) ++ rb).size = 1 + a.size + 1 := by rw [ByteArray.size_append, hz1, hr1]
  have hz : (((lb ++ a) ++ rb) ++ b).size = 1 + a.size + 1 + b.size := by rw [ByteArray.size_append, hz2]
  have e0 : bt (((lb ++ a) ++ rb) ++ b) 0 = 123 := by
    rw [bt_left _ _ _ (by rw [hz2]; omega), bt_left _ _ _ (by rw [hz1]; omega), bt_left _ _ _ (by decide)]; rfl
  have ea : ∀ j : Int, 0 ≤ j → j < a.size → bt (((lb ++ a) ++ rb) ++ b) (j + 1) = bt a j := by
    intro j h1 h2
    rw [bt_left _ _ _ (by rw [hz2]; omega), bt_left _ _ _ (by rw [hz1]; omega), bt_right _ _ _ j (by rw [hl1]; omega)]
  have er : bt (((lb ++ a) ++ rb) ++ b) ((a.size : Int) + 1) = 125 := by
    rw [bt_left _ _ _ (by rw [hz2]; omega), bt_right _ _ _ 0 (by rw [hz1]; omega)]; rfl
  have ex : ∀ m : Nat, m = 1 + a.size → (((lb ++ a) ++ rb) ++ b).extract 1 m = a := by
    intro m hm
    subst hm
    rw [ext_left _ _ _ _ (by rw [hz2]; omega), ext_left _ _ _ _ (by rw [hz1]; omega), ByteArray.extract_append_eq_right (i := 1) (j := 1 + a.size) hl1.symm (by rw [hl1])]
  have fin : osexpand_getShellName.f k (((lb ++ a) ++ rb) ++ b) = some (a, (a.size : Int) + 2) → impl_ShellName.f k (((lb ++ a) ++ rb) ++ b) = some (a, (a.size : Int) + 2) := by
    intro h
    unfold impl_ShellName.f osexpand_ZZShellName.f
    rw [h]; rfl
  have scan : ∀ k : Nat, a.size < k → osexpand_getShellName.l0 k (((lb ++ a) ++ rb) ++ b) 1 = some (a, (a.size : Int) + 2) := by
    intro k hk
    have h := brace_is (((lb ++ a) ++ rb) ++ b) (by rw [hz]; omega) (1 + a.size) (by omega) (by rw [hz]; omega)
      (fun j h1 h2 => by
        have e := ea (j - 1) (by omega) (by omega)
        rw [show j - 1 + 1 = j from by omega] at e
        rw [e]; exact ha (j - 1) (by omega) (by omega))
      (by rw [show ((1 + a.size : Nat) : Int) = (a.size : Int) + 1 from by omega]; exact er) a.size k 1 (by omega) (by omega) (by omega) (by omega)
    rw [h, ex _ rfl]
    congr 2
    omega
  have sub : ∀ x : Bool, (x = true → a.size = 1) → osexpand_getShellName.j0 k (((lb ++ a) ++ rb) ++ b) x = some (a, (a.size : Int) + 2) := by
    intro x hx
    obtain ⟨k, rfl⟩ : ∃ m, k = m + 1 := ⟨k - 1, by omega⟩
    simp only [osexpand_getShellName.j0]
    cases x with
    | true =>
      have h1 := hx rfl
      rw [if_pos rfl, if_pos (by omega), if_pos (by rw [hz]; omega), ex 2 (by omega), h1]
      rfl
    | false =>
      rw [if_neg (by simp)]
      exact scan k (by omega)
  apply fin
  unfold osexpand_getShellName.f
  rw [if_pos (by rw [hz]; omega), if_pos e0, if_pos (by rw [hz]; omega), if_pos (by rw [hz]; omega)]
  have hsp : ∀ c : Int, ∃ x, osexpand_isShellSpecialVar.f c = some x := by
    intro c
    unfold osexpand_isShellSpecialVar.f
    iterate 17 refine ite_ex ?_
    exact ⟨_, rfl⟩
  obtain ⟨x, hx⟩ := hsp (bt (((lb ++ a) ++ rb) ++ b) 1)
  rw [hx]
  simp only [Option.bind_some]
  cases x with
  | false => rw [if_neg (by simp)]; exact sub false (by simp)
  | true =>
    rw [if_pos rfl, if_pos (by rw [hz]; omega)]
    apply sub
    intro h
    have h' : bt (((lb ++ a) ++ rb) ++ b) 2 = 125 := by simpa using h
    by_cases e : 2 ≤ a.size
    · exact absurd ((ea 1 (by omega) (by omega)).symm.trans h') (ha 1 (by omega) (by omega))
    · omega

end Go.Proofs.Ytcblhkcdolaigaa.Braces

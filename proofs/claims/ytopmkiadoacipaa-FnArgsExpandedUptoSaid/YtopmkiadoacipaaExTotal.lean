/- Every text expands: getShellName answers at every text that is not empty, so the relation Ex has an answer everywhere. -/
import Derived.Test.YtopmkiadoacipaaXpPlain
namespace Go.Proofs.Ytopmkiadoacipaa.Xp
open Go.RowKit Go.Proofs.YtopmkiadoacipaaW.PrintWords Go.Proofs.YtopmkiadoacipaaW.PrintLast Go.Proofs.Ytopmkiadoacipaa.PFnExpandMade

theorem special_total (c : Int) : ∃ b, osexpand_isShellSpecialVar.f c = some b := by
  have key : ∀ (p : Prop) [Decidable p] (x : Option Bool), (∃ b, x = some b) → ∃ b, (if p then some true else x) = some b := fun p _ x h => by
    by_cases e : p
    · exact ⟨true, if_pos e⟩
    · rw [if_neg e]; exact h
  unfold osexpand_isShellSpecialVar.f
  iterate 17 apply key
  exact ⟨false, rfl⟩

theorem brace_total (s : ByteArray) (hs : s.size ≤ 562949953421312) (h0 : 0 < s.size) (d : Nat) : ∀ (k i : Nat), 1 ≤ i → i ≤ s.size → s.size - i = d → d < k →
    ∃ (name : ByteArray) (m : Nat), osexpand_getShellName.l0 k s (i : Int) = some (name, (m : Int)) ∧ m ≤ s.size ∧ name.size ≤ s.size := by
  induction d with
  | zero =>
    intro k i h1 hi hd hk
    obtain ⟨k, rfl⟩ : ∃ m, k = m + 1 := ⟨k - 1, by omega⟩
    exact ⟨⟨#[]⟩, 1, by simp only [osexpand_getShellName.l0]; rw [if_neg (by omega)]; rfl, by omega, Nat.zero_le _⟩
  | succ d ih =>
    intro k i h1 hi hd hk
    obtain ⟨k, rfl⟩ : ∃ m, k = m + 1 := ⟨k - 1, by omega⟩
    have hw : wrap64 ((i : Int) + 1) = ((i + 1 : Nat) : Int) := by unfold wrap64; omega
    simp only [osexpand_getShellName.l0]
    rw [if_pos (by omega), if_pos (by omega), hw]
    by_cases e : bt s (i : Int) = 125
    · rw [if_pos e]
      by_cases e1 : (i : Int) = 1
      · rw [if_pos e1]
        exact ⟨⟨#[]⟩, 2, rfl, by omega, Nat.zero_le _⟩
      · rw [if_neg e1, if_pos (by omega), if_pos (by omega)]
        exact ⟨_, i + 1, rfl, by omega, by rw [ByteArray.size_extract]; omega⟩
    · rw [if_neg e]
      exact ih k (i + 1) (by omega) (by omega) (by omega) (by omega)

theorem scan_total (s : ByteArray) (hs : s.size ≤ 562949953421312) (d : Nat) : ∀ (k i : Nat), i ≤ s.size → s.size - i = d → d < k →
    ∃ (name : ByteArray) (m : Nat), osexpand_getShellName.l1 k s (i : Int) = some (name, (m : Int)) ∧ m ≤ s.size ∧ name.size ≤ s.size := by
  induction d with
  | zero =>
    intro k i hi hd hk
    obtain ⟨k, rfl⟩ : ∃ m, k = m + 1 := ⟨k - 1, by omega⟩
    exact ⟨_, i, by simp only [osexpand_getShellName.l1]; rw [if_neg (by omega), if_pos (by omega), if_pos (by omega)], by omega, by rw [ByteArray.size_extract]; omega⟩
  | succ d ih =>
    intro k i hi hd hk
    obtain ⟨k, rfl⟩ : ∃ m, k = m + 1 := ⟨k - 1, by omega⟩
    have hw : wrap64 ((i : Int) + 1) = ((i + 1 : Nat) : Int) := by unfold wrap64; omega
    simp only [osexpand_getShellName.l1]
    rw [if_pos (by omega), if_pos (by omega), alphanum_is]
    simp only [Option.bind_some]
    rw [hw]
    by_cases ha : aln (bt s (i : Int)) = true
    · rw [if_pos ha]
      exact ih k (i + 1) (by omega) (by omega) (by omega)
    · rw [if_neg ha, if_pos (by omega)]
      exact ⟨_, i, rfl, by omega, by rw [ByteArray.size_extract]; omega⟩

theorem shell_total (s : ByteArray) (h0 : 0 < s.size) (hs : s.size ≤ 562949953421312) :
    ∃ (k : Nat) (name : ByteArray) (m : Nat), osexpand_getShellName.f k s = some (name, (m : Int)) ∧ m ≤ s.size ∧ name.size ≤ s.size := by
  have j0f : ∃ (name : ByteArray) (m : Nat), osexpand_getShellName.j0 (s.size + 2) s false = some (name, (m : Int)) ∧ m ≤ s.size ∧ name.size ≤ s.size := by
    obtain ⟨name, m, h1, h2, h3⟩ := brace_total s hs h0 (s.size - 1) (s.size + 1) 1 (Nat.le_refl _) (by omega) rfl (by omega)
    refine ⟨name, m, ?_, h2, h3⟩
    simp only [osexpand_getShellName.j0]
    rw [if_neg (by simp)]
    exact h1
  refine ⟨s.size + 2, ?_⟩
  unfold osexpand_getShellName.f
  rw [if_pos (by omega)]
  by_cases e : bt s 0 = 123
  · rw [if_pos e]
    by_cases e2 : (s.size : Int) > 2
    · rw [if_pos e2, if_pos (by omega)]
      obtain ⟨b, hb⟩ := special_total (bt s 1)
      rw [hb]
      simp only [Option.bind_some]
      cases b with
      | true =>
        rw [if_pos rfl, if_pos (by omega)]
        cases hq : (bt s 2 == 125) with
        | true =>
          refine ⟨_, 3, by simp only [osexpand_getShellName.j0]; rw [if_pos trivial, if_pos (by omega), if_pos (by omega)]; rfl, by omega, by rw [ByteArray.size_extract]; omega⟩
        | false => exact j0f
      | false =>
        rw [if_neg (by simp)]
        exact j0f
    · rw [if_neg e2]
      exact j0f
  · rw [if_neg e]
    obtain ⟨b, hb⟩ := special_total (bt s 0)
    rw [hb]
    simp only [Option.bind_some]
    cases b with
    | true =>
      rw [if_pos rfl, if_pos (by omega), if_pos (by omega)]
      exact ⟨_, 1, rfl, by omega, by rw [ByteArray.size_extract]; omega⟩
    | false =>
      rw [if_neg (by simp)]
      exact scan_total s hs s.size (s.size + 2) 0 (Nat.zero_le _) rfl (by omega)

/-- every text expands, to at most M + 1 bytes for each of its own -/
theorem ex_total (f : ByteArray → ByteArray) (M : Nat) (hM : ∀ x, (f x).size ≤ M) (s : ByteArray) (hs : s.size ≤ 281474976710656) (d : Nat) : ∀ j : Nat, j ≤ s.size → s.size - j ≤ d → ∃ r, Ex f s j r ∧ r.size ≤ (s.size - j) * (M + 1) := by
  induction d with
  | zero =>
    intro j hj hd
    exact ⟨_, .done (by omega), Nat.zero_le _⟩
  | succ d ih =>
    intro j hj hd
    by_cases hlt : j < s.size
    · by_cases hv : bt s (j : Int) = 36 ∧ j + 1 < s.size
      · obtain ⟨h36, hj1⟩ := hv
        have hz : (s.extract (j + 1) s.size).size = s.size - (j + 1) := by rw [ByteArray.size_extract]; omega
        obtain ⟨k, name, m, hf, hm, hn⟩ := shell_total (s.extract (j + 1) s.size) (by omega) (by omega)
        obtain ⟨r, hr, hrs⟩ := ih (j + 1 + m) (by omega) (by omega)
        have hle : (s.size - (j + 1 + m)) * (M + 1) + (M + 1) ≤ (s.size - j) * (M + 1) := by
          rw [← Nat.succ_mul]
          exact Nat.mul_le_mul_right _ (by omega)
        by_cases hn0 : name.size = 0
        · have hne : name = ByteArray.empty := by
            have h : name.data.size = 0 := hn0
            exact ByteArray.ext (Array.eq_empty_of_size_eq_zero h)
          subst hne
          by_cases hm0 : m = 0
          · subst hm0
            refine ⟨_, .keep h36 hj1 hf hr, ?_⟩
            rw [ByteArray.size_append]
            have e1 : (⟨#[36]⟩ : ByteArray).size = 1 := rfl
            omega
          · exact ⟨_, .eat h36 hj1 hf (by omega) (by omega) hr, by omega⟩
        · refine ⟨_, .var h36 hj1 hf hn0 (by omega) (by omega) hr, ?_⟩
          rw [ByteArray.size_append]
          have := hM name
          omega
      · obtain ⟨r, hr, hrs⟩ := ih (j + 1) (by omega) (by omega)
        have hle : (s.size - (j + 1)) * (M + 1) + (M + 1) ≤ (s.size - j) * (M + 1) := by
          rw [← Nat.succ_mul]
          exact Nat.mul_le_mul_right _ (by omega)
        refine ⟨_, .lit hlt hv hr, ?_⟩
        rw [ByteArray.size_append, ByteArray.size_extract]
        omega
    · exact ⟨_, .done (by omega), Nat.zero_le _⟩

end Go.Proofs.Ytopmkiadoacipaa.Xp

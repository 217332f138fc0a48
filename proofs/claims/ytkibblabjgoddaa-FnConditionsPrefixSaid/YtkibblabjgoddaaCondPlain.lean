/- What ScCond and zzCut say of a tag. -/
import Derived.Test.YtkibblabjgoddaaLawNone
namespace Go.Proofs.Ytkibblabjgoddaa.Tab
open Go.RowKit Go.Proofs.YtkibblabjgoddaaW.PrintWords Go.Proofs.Ytkibblabjgoddaa.PFnConditions

theorem bytes_of_toList {a b : ByteArray} (h : a.toList = b.toList) : a = b := by
  rw [ByteArray.toList_eq, ByteArray.toList_eq] at h
  apply ByteArray.ext
  exact Array.ext' h

theorem bt_of_ext (s : ByteArray) (i : Nat) (hi : i < s.size) (c : UInt8) (h : s.extract i (i + 1) = ⟨#[c]⟩) : bt s (i : Int) = (c.toNat : Int) := by
  have hz : (s.extract i (i + 1)).size = 1 := by rw [ByteArray.size_extract]; omega
  have e : (s.extract i (i + 1))[0]'(by omega) = s[i] := by rw [ByteArray.getElem_extract]; simp
  have e2 : (s.extract i (i + 1))[0]'(by omega) = c := by simp only [h]; rfl
  have hb := bt_at s (i : Int) (by simpa using hi)
  rw [← hb]
  have e3 : s[(i : Int).toNat]'(by simpa using hi) = s[i] := by simp
  rw [e3, ← e, e2]

theorem index_none (s : ByteArray) (hs : s.size ≤ 281474976710656) (hno : ∀ j : Nat, j < s.size → bt s (j : Int) ≠ 58) (d : Nat) : ∀ (k i : Nat), i ≤ s.size → s.size - i = d → d < k →
    scriptparse_zzIndex.l0 k s ⟨#[58]⟩ (i : Int) = some (-1) := by
  have h1 : (⟨#[58]⟩ : ByteArray).size = 1 := rfl
  induction d with
  | zero =>
    intro k i hi hd hk
    obtain ⟨k, rfl⟩ : ∃ m, k = m + 1 := ⟨k - 1, by omega⟩
    obtain rfl : i = s.size := by omega
    have hw : wrap64 ((s.size : Int) + ((⟨#[58]⟩ : ByteArray).size : Int)) = (s.size : Int) + 1 := by rw [h1]; unfold wrap64; omega
    simp only [scriptparse_zzIndex.l0]
    rw [hw, if_neg (by omega)]
  | succ d ih =>
    intro k i hi hd hk
    obtain ⟨k, rfl⟩ : ∃ m, k = m + 1 := ⟨k - 1, by omega⟩
    have hw : wrap64 ((i : Int) + ((⟨#[58]⟩ : ByteArray).size : Int)) = (i : Int) + 1 := by rw [h1]; unfold wrap64; omega
    have hw2 : wrap64 ((i : Int) + 1) = ((i + 1 : Nat) : Int) := by unfold wrap64; omega
    simp only [scriptparse_zzIndex.l0]
    rw [hw, hw2, if_pos (by omega), if_pos (by omega), if_pos (by omega), if_neg, ih k (i + 1) (by omega) (by omega) (by omega)]
    intro h
    have e := bytes_of_toList h
    have e2 : ((i : Int) + 1).toNat = i + 1 := by omega
    rw [e2] at e
    exact hno i (by omega) (bt_of_ext s i (by omega) 58 (by simpa using e))

theorem cut_none (s : ByteArray) (hs : s.size ≤ 281474976710656) (hno : ∀ j : Nat, j < s.size → bt s (j : Int) ≠ 58) : scriptparse_zzCut.f (s.size + 1) s ⟨#[58]⟩ = some (s, ⟨#[]⟩, false) := by
  unfold scriptparse_zzCut.f scriptparse_zzIndex.f
  rw [show (0 : Int) = ((0 : Nat) : Int) from rfl, index_none s hs hno s.size (s.size + 1) 0 (by omega) (by omega) (by omega)]
  simp

theorem alnum_not (c : Int) : ∃ b, spec_ScAlnum.f c = some b ∧ (b = true → c ≠ 58) := by
  unfold spec_ScAlnum.f
  have key : ∀ (P : Prop) (b : Bool), (b = true → P) → ∃ b', some b = some b' ∧ (b' = true → P) := fun P b h => ⟨b, rfl, h⟩
  repeat' split
  all_goals (refine key _ _ ?_; intro h; simp only [beq_iff_eq] at h; omega)

theorem cond_from (s : ByteArray) (hs : s.size ≤ 281474976710656) (d : Nat) : ∀ (k i : Nat), i ≤ s.size → s.size - i = d → d < k →
    ∃ b, spec_ScCond.l0 k s (i : Int) = some b ∧ (b = true → ∀ j : Nat, i ≤ j → j < s.size → bt s (j : Int) ≠ 58) := by
  induction d with
  | zero =>
    intro k i hi hd hk
    obtain ⟨k, rfl⟩ : ∃ m, k = m + 1 := ⟨k - 1, by omega⟩
    exact ⟨_, by simp only [spec_ScCond.l0]; rw [if_neg (by omega)], fun _ j _ _ => by omega⟩
  | succ d ih =>
    intro k i hi hd hk
    obtain ⟨k, rfl⟩ : ∃ m, k = m + 1 := ⟨k - 1, by omega⟩
    obtain ⟨b, hb, ht⟩ := ih k (i + 1) (by omega) (by omega) (by omega)
    obtain ⟨v, hv, hvt⟩ := alnum_not (bt s (i : Int))
    have hw2 : wrap64 ((i : Int) + 1) = ((i + 1 : Nat) : Int) := by unfold wrap64; omega
    simp only [spec_ScCond.l0]
    rw [if_pos (by omega), if_pos (by omega), hv]
    simp only [Option.bind_some]
    rw [hw2, hb]
    have go : bt s (i : Int) ≠ 58 → (b = true → ∀ j : Nat, i ≤ j → j < s.size → bt s (j : Int) ≠ 58) := fun h0 h j h1 h2 => by
      by_cases e : j = i
      · subst e; exact h0
      · exact ht h j (by omega) h2
    cases v with
    | true => rw [if_pos rfl]; exact ⟨b, rfl, go (hvt rfl)⟩
    | false =>
      rw [if_neg (by simp)]
      by_cases e : bt s (i : Int) = 46
      · rw [if_pos e]; exact ⟨b, rfl, go (by omega)⟩
      · rw [if_neg e]; exact ⟨false, rfl, fun h => by cases h⟩

theorem cond_some (s : ByteArray) (hs : s.size ≤ 281474976710656) : ∃ b, spec_ScCond.f (s.size + 1) s = some b ∧ (b = true → ∀ j : Nat, j < s.size → bt s (j : Int) ≠ 58) := by
  obtain ⟨b, h1, h2⟩ := cond_from s hs s.size (s.size + 1) 0 (by omega) (by omega) (by omega)
  exact ⟨b, h1, fun h j hj => h2 h j (Nat.zero_le _) hj⟩

end Go.Proofs.Ytkibblabjgoddaa.Tab

/- What zzCut says of a tag with a suffix. -/
import Derived.Test.YtkibblabjgoddaaCondPlain
namespace Go.Proofs.Ytkibblabjgoddaa.Tab
open Go.RowKit Go.Proofs.YtkibblabjgoddaaW.PrintWords Go.Proofs.Ytkibblabjgoddaa.PFnConditions

theorem sz (s : ByteArray) : s.data.toList.length = s.size := by rw [Array.length_toList]; rfl

theorem full_size (t s : ByteArray) : (t ++ ⟨#[58]⟩ ++ s).size = t.size + 1 + s.size := by
  rw [ByteArray.size_append, ByteArray.size_append]; rfl

theorem full_list (t s : ByteArray) : (t ++ ⟨#[58]⟩ ++ s).data.toList = t.data.toList ++ 58 :: s.data.toList := by
  simp

theorem ext_list (a : ByteArray) (i j : Nat) : (a.extract i j).data.toList = (a.data.toList.take j).drop i := by
  rw [ByteArray.data_extract, Array.toList_extract, List.extract_eq_take_drop, List.take_drop]
  by_cases h : i ≤ j
  · rw [show i + (j - i) = j by omega]
  · have e : j - i = 0 := by omega
    rw [e, List.drop_eq_nil_of_le (by rw [List.length_take]; omega), List.drop_eq_nil_of_le (by rw [List.length_take]; omega)]

theorem of_list {a b : ByteArray} (h : a.data.toList = b.data.toList) : a = b := ByteArray.ext (Array.ext' h)

theorem full_take (t s : ByteArray) : (t ++ ⟨#[58]⟩ ++ s).extract 0 t.size = t := by
  apply of_list
  rw [ext_list, full_list, List.drop_zero, ← sz, List.take_left']
  rfl

theorem full_mid (t s : ByteArray) : (t ++ ⟨#[58]⟩ ++ s).extract t.size (t.size + 1) = ⟨#[58]⟩ := by
  apply of_list
  rw [ext_list, full_list, ← sz, List.take_append, List.take_of_length_le (by omega), List.drop_append]
  simp

theorem full_drop (t s : ByteArray) : (t ++ ⟨#[58]⟩ ++ s).extract (t.size + 1) (t ++ ⟨#[58]⟩ ++ s).size = s := by
  apply of_list
  rw [ext_list, List.take_of_length_le (by rw [sz]; exact Nat.le_refl _), full_list, ← sz, List.drop_append]
  simp

theorem full_bt (t s : ByteArray) (j : Nat) (h : j < t.size) : bt (t ++ ⟨#[58]⟩ ++ s) (j : Int) = bt t (j : Int) := by
  have h2 : j < (t ++ ⟨#[58]⟩ ++ s).size := by rw [full_size]; omega
  rw [← bt_at _ _ (by simpa using h2), ← bt_at _ _ (by simpa using h)]
  have e1 : (t ++ ⟨#[58]⟩ ++ s).data.toList[j]? = t.data.toList[j]? := by
    rw [full_list, List.getElem?_append_left (by rw [sz]; exact h)]
  have e2 : (t ++ ⟨#[58]⟩ ++ s).data.toList[j]? = some (t ++ ⟨#[58]⟩ ++ s)[j] := by
    rw [List.getElem?_eq_getElem (by rw [sz]; exact h2)]; rfl
  have e3 : t.data.toList[j]? = some t[j] := by
    rw [List.getElem?_eq_getElem (by rw [sz]; exact h)]; rfl
  rw [e2, e3] at e1
  injection e1 with e1
  simp only [Int.toNat_natCast]
  rw [e1]

theorem index_some (t s : ByteArray) (hs : (t ++ ⟨#[58]⟩ ++ s).size ≤ 281474976710656) (hno : ∀ j : Nat, j < t.size → bt t (j : Int) ≠ 58) (d : Nat) : ∀ (k i : Nat), i ≤ t.size → t.size - i = d → d < k →
    scriptparse_zzIndex.l0 k (t ++ ⟨#[58]⟩ ++ s) ⟨#[58]⟩ (i : Int) = some (t.size : Int) := by
  have h1 : (⟨#[58]⟩ : ByteArray).size = 1 := rfl
  have hz := full_size t s
  induction d with
  | zero =>
    intro k i hi hd hk
    obtain ⟨k, rfl⟩ : ∃ m, k = m + 1 := ⟨k - 1, by omega⟩
    obtain rfl : i = t.size := by omega
    have hw : wrap64 ((t.size : Int) + ((⟨#[58]⟩ : ByteArray).size : Int)) = (t.size : Int) + 1 := by rw [h1]; unfold wrap64; omega
    simp only [scriptparse_zzIndex.l0]
    rw [hw, if_pos (by omega), if_pos (by omega), if_pos (by omega), if_pos]
    have e2 : ((t.size : Int) + 1).toNat = t.size + 1 := by omega
    rw [e2, Int.toNat_natCast, full_mid]
  | succ d ih =>
    intro k i hi hd hk
    obtain ⟨k, rfl⟩ : ∃ m, k = m + 1 := ⟨k - 1, by omega⟩
    have hw : wrap64 ((i : Int) + ((⟨#[58]⟩ : ByteArray).size : Int)) = (i : Int) + 1 := by rw [h1]; unfold wrap64; omega
    have hw2 : wrap64 ((i : Int) + 1) = ((i + 1 : Nat) : Int) := by unfold wrap64; omega
    simp only [scriptparse_zzIndex.l0]
    rw [hw, hw2, if_pos (by omega), if_pos (by omega), if_pos (by omega), if_neg, ih k (i + 1) (by omega) (by omega) (by omega)]
    intro h
    have e := bytes_of_toList h
    have e2 : ((i : Int) + 1).toNat = i + 1 := by omega
    rw [e2] at e
    have := bt_of_ext (t ++ ⟨#[58]⟩ ++ s) i (by omega) 58 (by simpa using e)
    rw [full_bt t s i (by omega)] at this
    exact hno i (by omega) (by simpa using this)

theorem cut_some (t s : ByteArray) (hs : (t ++ ⟨#[58]⟩ ++ s).size ≤ 281474976710656) (hno : ∀ j : Nat, j < t.size → bt t (j : Int) ≠ 58) : scriptparse_zzCut.f (t.size + 1) (t ++ ⟨#[58]⟩ ++ s) ⟨#[58]⟩ = some (t, s, true) := by
  have h1 : (⟨#[58]⟩ : ByteArray).size = 1 := rfl
  have hz := full_size t s
  have hw : wrap64 ((t.size : Int) + ((⟨#[58]⟩ : ByteArray).size : Int)) = (t.size : Int) + 1 := by rw [h1]; unfold wrap64; omega
  unfold scriptparse_zzCut.f scriptparse_zzIndex.f
  rw [show (0 : Int) = ((0 : Nat) : Int) from rfl, index_some t s hs hno t.size (t.size + 1) 0 (by omega) (by omega) (by omega)]
  simp only [Option.bind_some]
  rw [hw, if_pos (by omega), if_pos (by omega), if_pos (by omega), if_pos (by omega), if_pos (by omega)]
  have e2 : ((t.size : Int) + 1).toNat = t.size + 1 := by omega
  rw [e2, Int.toNat_natCast, full_take, full_drop]

end Go.Proofs.Ytkibblabjgoddaa.Tab

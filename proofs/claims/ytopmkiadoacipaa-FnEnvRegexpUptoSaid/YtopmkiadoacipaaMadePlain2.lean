/- What ScValue and ScExpanded say. -/
import Derived.Test.YtopmkiadoacipaaMadePlain
import Derived.Test.YtopmkiadoacipaaPartsIn
namespace Go.Proofs.Ytopmkiadoacipaa.Made
open Go.RowKit Go.Proofs.YtopmkiadoacipaaW.PrintWords Go.Proofs.Ytopmkiadoacipaa.PFnExpandMade Go.Proofs.Ytopmkiadoacipaa.Tab Go.Proofs.Ytopmkiadoacipaa.Xp Go.Proofs.Ytopmkiadoacipaa.Each Go.Proofs.Ytopmkiadoacipaa.Vars Go.Proofs.Ytopmkiadoacipaa.Written

theorem tab_miss (l0 l1 : List ByteArray) (x : ByteArray) (k : Nat) (h : ∀ i, i < k → nth l0 i ≠ x) : tab l0 l1 k x = ByteArray.empty := by
  induction k with
  | zero => rfl
  | succ k ih =>
    simp only [tab]
    rw [if_neg (fun e => h k (by omega) e.symm)]
    exact ih (fun i hi => h i (by omega))

theorem tab_hit (l0 l1 : List ByteArray) (x : ByteArray) (i : Nat) (hx : nth l0 i = x) (k : Nat) (hi : i < k) (h : ∀ j, i < j → j < k → nth l0 j ≠ x) : tab l0 l1 k x = nth l1 i := by
  induction k with
  | zero => omega
  | succ k ih =>
    simp only [tab]
    by_cases e : i = k
    · subst e; rw [if_pos hx.symm]
    · rw [if_neg (fun e2 => h k (by omega) (by omega) e2.symm)]
      exact ih (by omega) (fun j h1 h2 => h j h1 (by omega))

theorem toList_inj {a b : ByteArray} : a.toList = b.toList ↔ a = b := by
  constructor
  · intro h
    rw [ByteArray.toList_eq, ByteArray.toList_eq] at h
    exact bytes_of_list h
  · intro h; rw [h]

theorem rdOf_nth (l : List ByteArray) (i : Nat) : rdOf ByteArray.empty l (i : Int) = nth l i := by simp [rdOf]

theorem value_from (l0 l1 : List ByteArray) (x : ByteArray) (hg : Vars.Good l0 l1) (hl : l0.length ≤ 281474976710656) (d : Nat) : ∀ (k i : Nat), i ≤ l0.length → l0.length - i = d → d < k → (∀ j, j < i → nth l0 j ≠ x) →
    spec_ScValue.l0 k l1 x l0 (l0.length : Int) (i : Int) = some (tabv l0 l1 x) := by
  have hm : min l0.length l1.length = l0.length := by have := hg.1; omega
  induction d with
  | zero =>
    intro k i h1 hd hk hn
    obtain ⟨k, rfl⟩ : ∃ m, k = m + 1 := ⟨k - 1, by omega⟩
    simp only [spec_ScValue.l0]
    rw [if_neg (by omega)]
    unfold tabv
    rw [hm, tab_miss l0 l1 x l0.length (fun j hj => hn j (by omega))]
    rfl
  | succ d ih =>
    intro k i h1 hd hk hn
    obtain ⟨k, rfl⟩ : ∃ m, k = m + 1 := ⟨k - 1, by omega⟩
    simp only [spec_ScValue.l0]
    rw [if_pos (by omega), if_pos (by omega), if_pos (by omega), rdOf_nth, rdOf_nth]
    have hl1 := hg.1
    by_cases e : (nth l0 i).toList = x.toList
    · rw [if_pos e, if_pos (by omega)]
      have e' := toList_inj.1 e
      unfold tabv
      rw [hm, tab_hit l0 l1 x i e' l0.length (by omega) (fun j h2 h3 => by rw [← e']; exact fun e3 => hg.2.2 j h3 i h2 e3.symm)]
    · rw [if_neg e, wrap_next (n := l0.length) (by omega) (by omega) (by omega)]
      exact ih k (i + 1) (by omega) (by omega) (by omega) (fun j hj => by
        by_cases ej : j = i
        · subst ej; exact fun e2 => e (by rw [e2])
        · exact hn j (by omega))

theorem value_is (l0 l1 : List ByteArray) (x : ByteArray) (hg : Vars.Good l0 l1) (hl : l0.length ≤ 281474976710656) (k : Nat) (hk : l0.length < k) : spec_ScValue.f k l0 l1 x = some (tabv l0 l1 x) :=
  value_from l0 l1 x hg hl l0.length k 0 (by omega) (by omega) hk (fun j hj => by omega)

theorem bytesOf_append (a b : ByteArray) : bytesOf (a ++ b) = bytesOf a ++ bytesOf b := by simp [bytesOf]

theorem strOf_bytes (B : ByteArray) : strOfNums (bytesOf B) = B := by
  apply ByteArray.ext
  apply Array.ext'
  simp only [strOfNums, bytesOf, List.map_map]
  have hm : ∀ l : List UInt8, l.map ((fun n : Int => UInt8.ofNat n.toNat) ∘ fun b : UInt8 => (b.toNat : Int)) = l := by
    intro l
    induction l with
    | nil => rfl
    | cons x l ih => rw [List.map_cons, ih]; simp
  exact hm _

theorem expanded_from (l : List S50) (l0 l1 : List ByteArray) (hg : Vars.Good l0 l1) (hl0 : l0.length ≤ 281474976710656) (hl : l.length ≤ 281474976710656) (d : Nat) : ∀ (k i : Nat) (B : ByteArray), i ≤ l.length → l.length - i = d → d + l0.length < k →
    B.size + (expd (tabv l0 l1) (l.drop i)).size < 140737488355328 →
    spec_ScExpanded.l0 k l0 l1 (bytesOf B) l (l.length : Int) (i : Int) = some (B ++ expd (tabv l0 l1) (l.drop i)) := by
  induction d with
  | zero =>
    intro k i B h1 hd hk hz
    obtain ⟨k, rfl⟩ : ∃ m, k = m + 1 := ⟨k - 1, by omega⟩
    simp only [spec_ScExpanded.l0]
    rw [if_neg (by omega), List.drop_eq_nil_of_le (by omega)]
    simp only [expd, ByteArray.append_empty]
    rw [strOf_bytes]
  | succ d ih =>
    intro k i B h1 hd hk hz
    obtain ⟨k, rfl⟩ : ∃ m, k = m + 1 := ⟨k - 1, by omega⟩
    have hi : i < l.length := by omega
    have hw : wrap64 ((i : Int) + 1) = ((i + 1 : Nat) : Int) := by rw [wrap_next (n := l.length) (by omega) (by omega) (by omega)]; omega
    rw [List.drop_eq_getElem_cons hi] at hz ⊢
    simp only [spec_ScExpanded.l0]
    rw [if_pos (by omega), if_pos (by omega), if_pos (by omega), rd_at50 l i hi, hw]
    obtain ⟨p, hpe⟩ : ∃ p, p = l[i] := ⟨_, rfl⟩
    rw [← hpe] at hz ⊢
    simp only [expd] at hz ⊢
    by_cases f1 : p.f1 = true
    · rw [if_pos f1] at hz ⊢
      rw [if_pos f1, value_is l0 l1 p.f0 hg hl0 k (by omega)]
      simp only [Option.bind_some]
      rw [ByteArray.size_append] at hz
      rw [bytesOf_length, if_pos (by omega), ← bytesOf_append, ih k (i + 1) (B ++ tabv l0 l1 p.f0) (by omega) (by omega) (by omega) (by rw [ByteArray.size_append]; omega), ByteArray.append_assoc]
    · rw [if_neg f1] at hz ⊢
      rw [if_neg f1]
      rw [ByteArray.size_append] at hz
      rw [bytesOf_length, if_pos (by omega), ← bytesOf_append, ih k (i + 1) (B ++ p.f0) (by omega) (by omega) (by omega) (by rw [ByteArray.size_append]; omega), ByteArray.append_assoc]

theorem expanded_is (l : List S50) (l0 l1 : List ByteArray) (hg : Vars.Good l0 l1) (hl0 : l0.length ≤ 281474976710656) (hl : l.length ≤ 281474976710656) (hz : (expd (tabv l0 l1) l).size < 140737488355328) :
    spec_ScExpanded.f (l.length + l0.length + 1) l l0 l1 = some (expd (tabv l0 l1) l) := by
  have := expanded_from l l0 l1 hg hl0 hl l.length (l.length + l0.length + 1) 0 ByteArray.empty (by omega) (by omega) (by omega) (by simpa using hz)
  rw [List.drop_zero, ByteArray.empty_append] at this
  exact this

end Go.Proofs.Ytopmkiadoacipaa.Made

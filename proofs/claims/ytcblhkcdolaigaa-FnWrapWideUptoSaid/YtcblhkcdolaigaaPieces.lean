/- Plain facts on the pieces of a line: joined by blanks they are the line; how long they are shown; each is short or a single word. -/
import Derived.Test.YtcblhkcdolaigaaWrapped
namespace Go.Proofs.Ytcblhkcdolaigaa.WordsP
open Go.RowKit Go.Proofs.YtcblhkcdolaigaaW.PrintWords Go.Proofs.Ytcblhkcdolaigaa.StrsIn Go.Proofs.Ytcblhkcdolaigaa.Wrap

theorem pieces_ne {cols : Int} {s : ByteArray} {L : List ByteArray} (h : Pieces cols s L) : L ≠ [] := by
  cases h <;> simp

theorem len_list (s : ByteArray) : s.data.toList.length = s.size := by rw [Array.length_toList]; rfl

theorem cut_list (s : ByteArray) (best : Nat) (hb : best < s.size) (h32 : bt s (best : Int) = 32) :
    (s.extract 0 best).data.toList ++ [32] ++ (s.extract (best + 1) s.size).data.toList = s.data.toList := by
  have hg : s.data.toList[best]? = some 32 := (bt_list s best 32 (by decide)).1 ⟨h32, hb⟩
  obtain ⟨h1, h2⟩ := List.getElem?_eq_some_iff.1 hg
  rw [Split.ext_list, Split.ext_list, List.drop_zero, Nat.sub_zero]
  have e : (s.data.toList.drop (best + 1)).take (s.size - (best + 1)) = s.data.toList.drop (best + 1) := List.take_of_length_le (by rw [List.length_drop, len_list]; exact Nat.le_refl _)
  rw [e]
  have e2 : s.data.toList.drop best = 32 :: s.data.toList.drop (best + 1) := by rw [List.drop_eq_getElem_cons h1, h2]
  rw [List.append_assoc]
  show s.data.toList.take best ++ 32 :: s.data.toList.drop (best + 1) = _
  rw [← e2, List.take_append_drop]

theorem joined_cons {x : ByteArray} {L : List ByteArray} (h : L ≠ []) : joined (x :: L) = x.data.toList ++ [32] ++ joined L := by
  cases L with
  | nil => exact absurd rfl h
  | cons y L => rfl

theorem pieces_joined {cols : Int} {s : ByteArray} {L : List ByteArray} (h : Pieces cols s L) : joined L = s.data.toList := by
  induction h with
  | last s h => rfl
  | more s best L hl hb h32 h hL ih => rw [joined_cons (pieces_ne hL), ih, cut_list s best hb h32]

theorem joined_mem {L : List ByteArray} {x : ByteArray} {b : UInt8} (hx : x ∈ L) (hb : b ∈ x.data.toList) : b ∈ joined L := by
  induction L with
  | nil => cases hx
  | cons y L ih =>
    cases L with
    | nil =>
      obtain rfl : x = y := by simpa using hx
      exact hb
    | cons z L =>
      rw [joined_cons (by simp)]
      rcases List.mem_cons.1 hx with rfl | h
      · exact List.mem_append_left _ (List.mem_append_left _ hb)
      · exact List.mem_append_right _ (ih h)

theorem wt_joined (L : List ByteArray) (h : L ≠ []) : wt L = (joined L).length + 1 := by
  induction L with
  | nil => exact absurd rfl h
  | cons x L ih =>
    cases L with
    | nil => simp [wt, joined]
    | cons y L =>
      rw [joined_cons (by simp)]
      rw [wt, ih (by simp), List.length_append, List.length_append, len_list]
      simp
      omega

theorem pieces_total {cols : Int} {s : ByteArray} {L : List ByteArray} (n : Nat) (h : Pieces cols s L) : total n L ≤ (s.size + 1) * (n + 1) := by
  induction h with
  | last s h =>
    have e : (s.size + 1) * (n + 1) = s.size * n + s.size + n + 1 := by rw [Nat.add_mul, Nat.mul_add]; omega
    simp only [total]
    omega
  | more s best L hl hb h32 h hL ih =>
    have hz : (s.extract (best + 1) s.size).size = s.size - (best + 1) := by rw [ByteArray.size_extract]; omega
    have hx : (s.extract 0 best).size = best := by rw [ByteArray.size_extract]; omega
    rw [hz] at ih
    simp only [total, hx]
    have e1 : (s.size + 1) * (n + 1) = (best + 1) * (n + 1) + (s.size - (best + 1) + 1) * (n + 1) := by rw [← Nat.add_mul]; congr 1; omega
    have e2 : (best + 1) * (n + 1) = best * n + best + n + 1 := by rw [Nat.add_mul, Nat.mul_add]; omega
    omega

theorem ext_bt (s : ByteArray) (a b j : Nat) (h : j < b - a) (hb : b ≤ s.size) : bt (s.extract a b) (j : Int) = bt s ((a + j : Nat) : Int) := by
  have hz : (s.extract a b).size = b - a := by rw [ByteArray.size_extract]; omega
  rw [bt_get _ j (by omega), bt_get s (a + j) (by omega)]
  congr 2
  rw [ByteArray.getElem_extract]

/-- each piece of a tidy line has a byte, and is short or has no blank -/
theorem pieces_wide {cols : Int} {s : ByteArray} {L : List ByteArray} (h : Pieces cols s L) (ht : Tidy s) : ∀ x ∈ L, 0 < x.size ∧ ((x.size : Int) ≤ cols ∨ NoSp x 0 x.size) := by
  induction h with
  | last s h =>
    intro x hx
    obtain rfl : x = s := by simpa using hx
    exact ⟨ht.1, h⟩
  | more s best L hl hb h32 h hL ih =>
    obtain ⟨t1, t2, t3, t4⟩ := ht
    have hx : (s.extract 0 best).size = best := by rw [ByteArray.size_extract]; omega
    have hz : (s.extract (best + 1) s.size).size = s.size - (best + 1) := by rw [ByteArray.size_extract]; omega
    have hb0 : 0 < best := by
      rcases Nat.eq_zero_or_pos best with e | e
      · subst e; exact absurd h32 t2
      · exact e
    have hb1 : best + 1 < s.size := by
      rcases Nat.lt_or_ge (best + 1) s.size with e | e
      · exact e
      · have : best = s.size - 1 := by omega
        rw [this] at h32
        exact absurd h32 t3
    have hrest : Tidy (s.extract (best + 1) s.size) := by
      refine ⟨by omega, ?_, ?_, ?_⟩
      · have := ext_bt s (best + 1) s.size 0 (by omega) (Nat.le_refl _)
        rw [show ((0 : Nat) : Int) = 0 from rfl] at this
        rw [this]
        exact t4 best hb1 h32
      · rw [hz, ext_bt s (best + 1) s.size _ (by omega) (Nat.le_refl _), show best + 1 + (s.size - (best + 1) - 1) = s.size - 1 from by omega]
        exact t3
      · intro i hi h
        rw [hz] at hi
        rw [ext_bt s (best + 1) s.size _ (by omega) (Nat.le_refl _)] at h ⊢
        exact t4 (best + 1 + i) (by omega) h
    intro x hxm
    rcases List.mem_cons.1 hxm with rfl | hm
    · refine ⟨by omega, ?_⟩
      rw [hx]
      rcases h with h | h
      · exact .inl h
      · refine .inr fun j _ hj => ?_
        rw [ext_bt s 0 best j (by omega) (by omega), Nat.zero_add]
        exact h j (by omega) hj
    · exact ih hrest x hm

end Go.Proofs.Ytcblhkcdolaigaa.WordsP

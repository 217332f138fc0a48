/- Plain facts on texts: runes and spaces; the pieces into which a line is broken; splitting at newlines. No Go and no memory. -/
import Derived.Test.YtcblhkcdolaigaaWWords
import Derived.Laws.RangeAny
import Derived.Laws.RangeString
namespace Go.Proofs.Ytcblhkcdolaigaa.Wrap
open Go.RowKit Go.Proofs.YtcblhkcdolaigaaW.PrintWords

theorem bt_get (s : ByteArray) (i : Nat) (h : i < s.size) : bt s (i : Int) = ((s[i]'h).toNat : Int) := by
  unfold bt
  simp [h]

theorem get_bang (s : ByteArray) (i : Nat) (h : i < s.size) : s.get! i = s[i]'h := by
  have : s.get! i = s.data[i]! := rfl
  rw [this, getElem!_pos s.data i h]
  rfl

/-- a rune takes in no byte below 128 but its first; it ends in the text -/
theorem rune_bytes (s : ByteArray) (pos : Nat) (h : pos < s.size) :
    1 ≤ (Utf8.decode s pos).2 ∧ pos + (Utf8.decode s pos).2 ≤ s.size ∧ ∀ j, pos < j → j < pos + (Utf8.decode s pos).2 → 128 ≤ bt s (j : Int) := by
  have key : ∀ k, 1 ≤ k → (pos + k < s.size && (s.get! (pos + k)).toNat / 64 == 2) = true → pos + k < s.size ∧ 128 ≤ bt s ((pos + k : Nat) : Int) := by
    intro k _ hk
    rw [Bool.and_eq_true, decide_eq_true_eq, beq_iff_eq] at hk
    obtain ⟨h1, h2⟩ := hk
    refine ⟨h1, ?_⟩
    rw [bt_get s _ h1]
    rw [get_bang s _ h1] at h2
    omega
  have one : (1 ≤ 1 ∧ pos + 1 ≤ s.size ∧ ∀ j, pos < j → j < pos + 1 → 128 ≤ bt s (j : Int)) := ⟨Nat.le_refl _, by omega, fun j h1 h2 => by omega⟩
  unfold Utf8.decode
  dsimp only
  split
  · exact one
  split
  · rename_i hc
    rw [Bool.and_eq_true] at hc
    obtain ⟨k1, k2⟩ := key 1 (by omega) hc.2
    split
    · refine ⟨by omega, by simp only; omega, fun j h1 h2 => ?_⟩
      obtain rfl : j = pos + 1 := by simp only at h2; omega
      exact k2
    · exact one
  split
  · rename_i hc
    rw [Bool.and_eq_true, Bool.and_eq_true] at hc
    obtain ⟨k1, k2⟩ := key 1 (by omega) hc.1.2
    obtain ⟨m1, m2⟩ := key 2 (by omega) hc.2
    split
    · refine ⟨by omega, by simp only; omega, fun j h1 h2 => ?_⟩
      have : j = pos + 1 ∨ j = pos + 2 := by simp only at h2; omega
      rcases this with rfl | rfl
      · exact k2
      · exact m2
    · exact one
  split
  · rename_i hc
    rw [Bool.and_eq_true, Bool.and_eq_true, Bool.and_eq_true] at hc
    obtain ⟨k1, k2⟩ := key 1 (by omega) hc.1.1.2
    obtain ⟨m1, m2⟩ := key 2 (by omega) hc.1.2
    obtain ⟨n1, n2⟩ := key 3 (by omega) hc.2
    split
    · refine ⟨by omega, by simp only; omega, fun j h1 h2 => ?_⟩
      have : j = pos + 1 ∨ j = pos + 2 ∨ j = pos + 3 := by simp only at h2; omega
      rcases this with rfl | rfl | rfl
      · exact k2
      · exact m2
      · exact n2
    · exact one
  · exact one

/-- a rune is the sign c of ASCII just where its first byte is c -/
theorem rune_is (s : ByteArray) (pos : Nat) (h : pos < s.size) (c : Nat) (hc : c < 128) : (Utf8.decode s pos).1 = c ↔ bt s (pos : Int) = c := by
  rw [bt_get s pos h]
  by_cases ha : (s[pos]'h).toNat < 128
  · rw [decode_ascii s pos h ha]; simp only; omega
  · have := (decode_high s pos h (by omega)).1
    omega

/-- no space in a text from place a up to place b -/
def NoSp (s : ByteArray) (a b : Nat) : Prop := ∀ j : Nat, a ≤ j → j < b → bt s (j : Int) ≠ 32

/-- The pieces of a line that is broken at spaces: each but the last ends at a space, and is no longer than told or has no space; so is the last. -/
inductive Pieces (cols : Int) : ByteArray → List ByteArray → Prop
  | last (s : ByteArray) (h : (s.size : Int) ≤ cols ∨ NoSp s 0 s.size) : Pieces cols s [s]
  | more (s : ByteArray) (best : Nat) (L : List ByteArray) (hl : cols < s.size) (hb : best < s.size) (h32 : bt s (best : Int) = 32) (h : (best : Int) ≤ cols ∨ NoSp s 0 best) (hL : Pieces cols (s.extract (best + 1) s.size) L) : Pieces cols s (s.extract 0 best :: L)

/-- the pieces as they are written: the indent ahead of each, a newline behind it -/
def shown (indent : List UInt8) : List ByteArray → List UInt8
  | [] => []
  | x :: L => indent ++ x.data.toList ++ [10] ++ shown indent L
theorem shown_append (indent : List UInt8) (A B : List ByteArray) : shown indent (A ++ B) = shown indent A ++ shown indent B := by
  induction A with
  | nil => rfl
  | cons x A ih => simp [shown, ih]
/-- how long they are -/
def total (n : Nat) : List ByteArray → Nat
  | [] => 0
  | x :: L => n + x.size + 1 + total n L
theorem total_append (n : Nat) (A B : List ByteArray) : total n (A ++ B) = total n A + total n B := by
  induction A with
  | nil => simp [total]
  | cons x A ih => simp only [List.cons_append, total, ih]; omega
theorem shown_length (indent : List UInt8) (L : List ByteArray) : (shown indent L).length = total indent.length L := by
  induction L with
  | nil => rfl
  | cons x L ih =>
    simp only [shown, total, List.length_append, ih, List.length_cons, List.length_nil, Array.length_toList]
    rfl

end Go.Proofs.Ytcblhkcdolaigaa.Wrap

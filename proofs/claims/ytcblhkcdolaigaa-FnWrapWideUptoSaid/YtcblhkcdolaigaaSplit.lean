/- spec.ScSplit at a newline: the pieces between newlines. Condition: the text has at most 2^42 bytes. -/
import Derived.Test.YtcblhkcdolaigaaWordsPlain
import Derived.Lib.Strings
import Derived.WalkSpells
namespace Go.Proofs.Ytcblhkcdolaigaa.Split
open Go.RowKit Go.Proofs.YtcblhkcdolaigaaW.PrintWords

/-- the pieces of a text between newlines -/
def splitNL : List UInt8 → List (List UInt8)
  | [] => [[]]
  | c :: t => if c = 10 then [] :: splitNL t else match splitNL t with
    | [] => [[c]]
    | h :: r => (c :: h) :: r
theorem split_plain (A : List UInt8) (h : ∀ b ∈ A, b ≠ 10) : splitNL A = [A] := by
  induction A with
  | nil => rfl
  | cons c A ih =>
    simp only [splitNL]
    rw [if_neg (h c List.mem_cons_self), ih (fun b hb => h b (List.mem_cons_of_mem _ hb))]
theorem split_at (A R : List UInt8) (h : ∀ b ∈ A, b ≠ 10) : splitNL (A ++ 10 :: R) = A :: splitNL R := by
  induction A with
  | nil => simp [splitNL]
  | cons c A ih =>
    simp only [List.cons_append, splitNL]
    rw [if_neg (h c List.mem_cons_self), ih (fun b hb => h b (List.mem_cons_of_mem _ hb))]

def lst (l : List ByteArray) : List (List UInt8) := l.map fun s => s.data.toList

theorem info9 : (Try.prog.info? 9).map (fun i => (i.zero, i.size, i.bytes)) = some (some (.string ⟨#[]⟩), 1, 16) := by kernel_rfl

theorem len_list (s : ByteArray) : s.data.toList.length = s.size := by rw [Array.length_toList]; rfl

theorem ext_list (s : ByteArray) (a b : Nat) : (s.extract a b).data.toList = (s.data.toList.drop a).take (b - a) := Lib.extract_data s a b

/-- what holds at the head of each round -/
def Inv (s : ByteArray) (i from_ : Nat) (D : List ByteArray) : Prop :=
  from_ ≤ i ∧ i ≤ s.size ∧ D.length ≤ from_ ∧ splitNL s.data.toList = lst D ++ splitNL (s.data.toList.drop from_) ∧ ∀ j : Nat, from_ ≤ j → j < i → s.data.toList[j]? ≠ some 10

theorem inv_next {s : ByteArray} {i from_ : Nat} {D : List ByteArray} (h : Inv s i from_ D) (hi : i < s.size) (h10 : s.data.toList[i]? ≠ some 10) : Inv s (i + 1) from_ D := by
  obtain ⟨h1, h2, h3, h4, h5⟩ := h
  refine ⟨by omega, by omega, h3, h4, fun j hj hj' => ?_⟩
  by_cases e : j = i
  · subst e; exact h10
  · exact h5 j hj (by omega)

theorem mem_piece {L : List UInt8} {a n : Nat} {b : UInt8} (h : b ∈ (L.drop a).take n) : ∃ j : Nat, a ≤ j ∧ j < a + n ∧ L[j]? = some b := by
  obtain ⟨j, hj, he⟩ := List.mem_iff_getElem.1 h
  have hj2 : j < n := by rw [List.length_take] at hj; omega
  refine ⟨a + j, by omega, by omega, ?_⟩
  rw [← he, List.getElem_take, List.getElem_drop, List.getElem?_eq_getElem]

theorem inv_cut {s : ByteArray} {i from_ : Nat} {D : List ByteArray} (h : Inv s i from_ D) (h10 : s.data.toList[i]? = some 10) : Inv s (i + 1) (i + 1) (D ++ [s.extract from_ i]) := by
  obtain ⟨h1, h2, h3, h4, h5⟩ := h
  obtain ⟨hi, he⟩ := List.getElem?_eq_some_iff.1 h10
  rw [len_list] at hi
  refine ⟨Nat.le_refl _, by omega, by rw [List.length_append]; simp; omega, ?_, fun j hj hj' => by omega⟩
  have hd : s.data.toList.drop from_ = (s.extract from_ i).data.toList ++ 10 :: s.data.toList.drop (i + 1) := by
    rw [ext_list]
    have e1 : (s.data.toList.drop from_).drop (i - from_) = 10 :: s.data.toList.drop (i + 1) := by
      rw [List.drop_drop, show from_ + (i - from_) = i from by omega, List.drop_eq_getElem_cons (by rw [len_list]; omega), he]
    rw [← e1, List.take_append_drop]
  rw [h4, hd, split_at]
  · simp [lst]
  · intro b hb e
    subst e
    rw [ext_list] at hb
    obtain ⟨j, hj1, hj2, hj3⟩ := mem_piece hb
    exact h5 j hj1 (by omega) hj3

theorem inv_end {s : ByteArray} {from_ : Nat} {D : List ByteArray} (h : Inv s s.size from_ D) : lst (D ++ [s.extract from_ s.size]) = splitNL s.data.toList := by
  obtain ⟨h1, h2, h3, h4, h5⟩ := h
  have e : (s.extract from_ s.size).data.toList = s.data.toList.drop from_ := by
    rw [ext_list]
    exact List.take_of_length_le (by rw [List.length_drop, len_list]; exact Nat.le_refl _)
  have hp : splitNL (s.data.toList.drop from_) = [s.data.toList.drop from_] := by
    apply split_plain
    intro b hb e
    subst e
    obtain ⟨j, hj, he⟩ := List.mem_iff_getElem.1 hb
    rw [List.length_drop, len_list] at hj
    refine h5 (from_ + j) (by omega) (by omega) ?_
    rw [← he, List.getElem_drop, List.getElem?_eq_getElem]
  rw [h4, hp]
  simp only [lst, List.map_append, List.map_cons, List.map_nil, e]

/-- the piece of one byte is a newline just where the byte is -/
theorem piece_newline (s : ByteArray) (i : Nat) (hi : i < s.size) : (s.extract i (i + 1)).toList = [10] ↔ s.data.toList[i]? = some 10 := by
  rw [ByteArray.toList_eq, ext_list, show i + 1 - i = 1 from by omega, List.drop_eq_getElem_cons (by rw [len_list]; exact hi), List.getElem?_eq_getElem (by rw [len_list]; exact hi)]
  simp

set_option maxHeartbeats 4000000 in
set_option maxRecDepth 100000 in
theorem split (s : ByteArray) (w : World) (hs : s.size ≤ 4398046511104) :
    Calls Try.prog 36 #[.string s, .string ⟨#[10]⟩] w fun e w' => ∃ (v : Value) (R : List ByteArray), e = .returned v ∧ w'.ownsRow w.heap.size 9 1 v R.length (pw_strs R) ∧ lst R = splitNL s.data.toList ∧ R.length ≤ s.size + 1 ∧ Below w.heap.size w w' := by
  go_enter Try.func36, Try.ntmps36
  go_wp2_with fail
  go_loopw [5, 6, 7] (fun v5 v6 v7 wr => ∃ (i from_ : Nat) (D : List ByteArray), v6 = .int .i64 from_ ∧ v7 = .int .i64 i ∧ Inv s i from_ D ∧ wr.ownsRow w.heap.size 9 1 v5 D.length (pw_strs D) ∧ Below w.heap.size w wr) (fun _ _ v7 _ => s.size - (intOf v7).toNat)
  case atStart => exact ⟨0, 0, [], rfl, rfl, ⟨Nat.le_refl _, Nat.zero_le _, Nat.le_refl _, by simp [lst], fun j h0 h1 => by omega⟩, own_nil _ _ _ _, Below.refl _ _⟩
  case round =>
    obtain ⟨i, from_, D, rfl, rfl, hI, hO, hB⟩ := hrel
    have i1 := hI.1
    have i2 := hI.2.1
    have i3 := hI.2.2.1
    have HI := Aside0.mk hI
    have HO := Aside0.mk hO
    have HB := Aside0.mk hB
    have hsz := hB.size
    clear hI hO hB
    by_cases hlt : i < s.size
    · have hle : (i : Int) + 1 ≤ s.size := by omega
      by_cases h10 : s.data.toList[i]? = some 10
      · have he : ((s.extract i (i + 1)).toList == [10]) = true := beq_iff_eq.2 ((piece_newline s i hlt).2 h10)
        have HN := Aside0.mk (inv_cut HI.out h10)
        clear h10
        have HL := Aside0.mk (show (pw_strs D).length = D.length by simp [pw_strs])
        have hr16 : (D.length + 1) * 16 ≤ 140737488355328 := by omega
        go_wp2_with (at_builtin; refine print_append (w0 := w) w.heap.size rfl (.tmp 24) (.tmp 29) 37 9 (.string ⟨#[]⟩) 16 rfl Try.underlying37 info9 rfl (by decide) _ (pw_strs D) (.string (s.extract from_ i)) rfl rfl rfl (by rw [HL.out]; exact HO.out) HB.out hsz (by rw [HL.out]; exact hr16) ?_; intro v1 w1 o1 b1 _ _)
        have e2 : pw_strs D ++ [.string (s.extract from_ i)] = pw_strs (D ++ [s.extract from_ i]) := by simp [pw_strs]
        have e3 : (pw_strs (D ++ [s.extract from_ i])).length = (D ++ [s.extract from_ i]).length := by simp [pw_strs]
        rw [e2, e3] at o1
        go_roundw
        case rel => exact ⟨i + 1, i + 1, D ++ [s.extract from_ i], by go_num, by go_num, HN.out, o1, b1⟩
        case measure => simp [intOf]; omega
      · have he : ((s.extract i (i + 1)).toList == [10]) = false := by
          rw [beq_eq_false_iff_ne]
          exact fun h => h10 ((piece_newline s i hlt).1 h)
        have HN := Aside0.mk (inv_next HI.out hlt h10)
        clear h10
        go_wp2_with fail
        go_roundw
        case rel => exact ⟨i + 1, from_, D, rfl, by go_num, HN.out, HO.out, HB.out⟩
        case measure => simp [intOf]; omega
    · obtain rfl : i = s.size := by omega
      have HL := Aside0.mk (show (pw_strs D).length = D.length by simp [pw_strs])
      have hr16 : (D.length + 1) * 16 ≤ 140737488355328 := by omega
      have HE := Aside0.mk (inv_end HI.out)
      go_wp2_with (at_builtin; refine print_append (w0 := w) w.heap.size rfl (.tmp 38) (.tmp 42) 37 9 (.string ⟨#[]⟩) 16 rfl Try.underlying37 info9 rfl (by decide) _ (pw_strs D) (.string (s.extract from_ s.size)) rfl rfl rfl (by rw [HL.out]; exact HO.out) HB.out hsz (by rw [HL.out]; exact hr16) ?_; intro v1 w1 o1 b1 _ _)
      have e2 : pw_strs D ++ [.string (s.extract from_ s.size)] = pw_strs (D ++ [s.extract from_ s.size]) := by simp [pw_strs]
      have e3 : (pw_strs (D ++ [s.extract from_ s.size])).length = (D ++ [s.extract from_ s.size]).length := by simp [pw_strs]
      rw [e2, e3] at o1
      go_ret
      exact ⟨v1, D ++ [s.extract from_ s.size], rfl, o1, HE.out, by rw [List.length_append]; simp; omega, b1⟩

end Go.Proofs.Ytcblhkcdolaigaa.Split

/- What the printed functions zzFits3, ScJoined, ScPlain and scWrapGood answer on lists of texts. Condition: the texts hold together at most 2^21 letters and places. -/
import Derived.Test.YtcblhkcdolaigaaPFnWrapShortx1
import Derived.Test.YtcblhkcdolaigaaStrsIn
import Derived.Test.YtcblhkcdolaigaaWrapPlain
namespace Go.Proofs.Ytcblhkcdolaigaa.WordsP
open Go.RowKit Go.Proofs.YtcblhkcdolaigaaW.PrintWords Go.Proofs.YtcblhkcdolaigaaW.PrintLast Go.Proofs.Ytcblhkcdolaigaa.PFnWrapShort Go.Proofs.Ytcblhkcdolaigaa.StrsIn

theorem wrap_next {i : Int} {n : Nat} (h0 : 0 ≤ i) (h : i < (n : Int)) (hn : n ≤ 562949953421312) : wrap64 (i + 1) = i + 1 := by
  unfold wrap64
  omega

theorem rdOf_at (l : List ByteArray) (i : Nat) (h : i < l.length) : rdOf ByteArray.empty l (i : Int) = l[i] := by
  simp [rdOf, List.getD_eq_getElem?_getD, List.getElem?_eq_getElem h]

theorem fits (l : List ByteArray) (hl : l.length ≤ 2097152) (d : Nat) : ∀ (k i : Nat), i ≤ l.length → l.length - i = d → d < k → ∃ b, laws_zzFits3.l0 k l (l.length : Int) (i : Int) = some b := by
  induction d with
  | zero =>
    intro k i h1 hd hk
    obtain ⟨k, rfl⟩ : ∃ m, k = m + 1 := ⟨k - 1, by omega⟩
    exact ⟨true, by simp only [laws_zzFits3.l0]; rw [if_neg (by omega)]⟩
  | succ d ih =>
    intro k i h1 hd hk
    obtain ⟨k, rfl⟩ : ∃ m, k = m + 1 := ⟨k - 1, by omega⟩
    obtain ⟨b, hb⟩ := ih k (i + 1) (by omega) (by omega) (by omega)
    simp only [laws_zzFits3.l0]
    rw [if_pos (by omega), if_pos (by omega), if_pos (by omega)]
    by_cases e : ((rdOf ByteArray.empty l (i : Int)).size : Int) > 2147483647
    · exact ⟨false, by rw [if_pos e]⟩
    · refine ⟨b, ?_⟩
      rw [if_neg e, wrap_next (n := l.length) (by omega) (by omega) (by omega)]
      exact hb

theorem fits_some (l : List ByteArray) (hl : l.length ≤ 2097152) : ∃ b, laws_zzFits3.f (l.length + 1) l = some b := by
  unfold laws_zzFits3.f
  rw [if_neg (by omega)]
  exact fits l hl l.length _ 0 (by omega) (by omega) (by omega)

/-- texts with a blank between them -/
def joined : List ByteArray → List UInt8
  | [] => []
  | [x] => x.data.toList
  | x :: y :: l => x.data.toList ++ [32] ++ joined (y :: l)
theorem joined_snoc (A : List ByteArray) (x : ByteArray) : joined (A ++ [x]) = if A = [] then x.data.toList else joined A ++ [32] ++ x.data.toList := by
  induction A with
  | nil => rfl
  | cons a A ih =>
    rw [if_neg (by simp)]
    cases A with
    | nil => rfl
    | cons b A =>
      rw [if_neg (by simp)] at ih
      simp only [List.cons_append] at ih ⊢
      simp only [joined, ih, List.append_assoc]
theorem joined_wt (l : List ByteArray) : (joined l).length ≤ wt l := by
  induction l with
  | nil => simp [joined]
  | cons x l ih =>
    have hx : x.data.toList.length = x.size := by rw [Array.length_toList]; rfl
    cases l with
    | nil => simp only [joined, wt, hx]; omega
    | cons y l =>
      simp only [joined, List.length_append, hx, List.length_cons, List.length_nil]
      simp only [wt] at ih ⊢
      omega

theorem bytesOf_nat (l : List UInt8) : bytesOf ⟨l.toArray⟩ = l.map fun b => (b.toNat : Int) := by simp [bytesOf]
def ints (l : List UInt8) : List Int := l.map fun b => (b.toNat : Int)
theorem ints_append (a b : List UInt8) : ints (a ++ b) = ints a ++ ints b := by simp [ints]
theorem strOf_ints (l : List UInt8) : strOfNums (ints l) = ⟨l.toArray⟩ := by
  unfold strOfNums ints
  rw [List.map_map]
  congr 2
  rw [List.map_congr_left (g := id) (fun b _ => by simp)]
  simp

abbrev sp : ByteArray := ⟨#[32]⟩

theorem join (l : List ByteArray) (hw : wt l ≤ 2097152) (d : Nat) : ∀ (k i : Nat), i ≤ l.length → l.length - i = d → d < k →
    spec_ScJoined.l0 k sp (ints (joined (l.take i))) l (l.length : Int) (i : Int) = some ⟨(joined l).toArray⟩ := by
  have hlen := wt_length l
  induction d with
  | zero =>
    intro k i h1 hd hk
    obtain ⟨k, rfl⟩ : ∃ m, k = m + 1 := ⟨k - 1, by omega⟩
    simp only [spec_ScJoined.l0]
    rw [if_neg (by omega), List.take_of_length_le (by omega), strOf_ints]
  | succ d ih =>
    intro k i h1 hd hk
    obtain ⟨k, rfl⟩ : ∃ m, k = m + 1 := ⟨k - 1, by omega⟩
    have hi : i < l.length := by omega
    have h := ih k (i + 1) (by omega) (by omega) (by omega)
    have htk : l.take (i + 1) = l.take i ++ [l[i]] := by rw [List.take_succ_eq_append_getElem hi]
    have hsz : (l[i]).size ≤ wt l := wt_mem (List.getElem_mem hi)
    have hjl : (ints (joined (l.take i))).length ≤ wt l := by
      unfold ints
      rw [List.length_map]
      exact Nat.le_trans (joined_wt _) (wt_take _ _)
    simp only [spec_ScJoined.l0]
    rw [if_pos (by omega), if_pos (by omega), if_pos (by omega), rdOf_at l i hi]
    have hsp : sp.size = 1 := rfl
    have hbs : bytesOf (l[i]) = ints (l[i]).data.toList := rfl
    have hb1 : bytesOf sp = ints [32] := rfl
    rw [show ((i + 1 : Nat) : Int) = (i : Int) + 1 from by omega, htk, joined_snoc] at h
    by_cases e : i = 0
    · subst e
      rw [if_neg (by omega), if_pos (by omega), wrap_next (n := l.length) (by omega) (by omega) (by omega)]
      simp only [List.take_zero] at h ⊢
      rw [if_pos trivial] at h
      rw [hbs]
      simpa [joined, ints] using h
    · have hne : l.take i ≠ [] := by
        intro h0
        have := congrArg List.length h0
        rw [List.length_take, List.length_nil] at this
        omega
      rw [if_neg hne] at h
      have hl2 : (ints (joined (l.take i)) ++ bytesOf sp).length ≤ wt l + 1 := by
        rw [List.length_append, bytesOf_length, hsp]; omega
      rw [if_pos (by omega), if_pos (by omega)]
      simp only [Option.bind_some]
      rw [if_pos (by omega), wrap_next (n := l.length) (by omega) (by omega) (by omega), hb1, hbs, ← ints_append, ← ints_append]
      exact h

theorem join_some (l : List ByteArray) (hw : wt l ≤ 2097152) : spec_ScJoined.f (l.length + 1) l sp = some ⟨(joined l).toArray⟩ :=
  join l hw l.length _ 0 (by omega) (by omega) (by omega)

/-- a byte that no word has: a gap, a quote, or # -/
def Off (c : Int) : Prop := c = 32 ∨ c = 9 ∨ c = 13 ∨ c = 10 ∨ c = 39 ∨ c = 35
def PlainW (s : ByteArray) : Prop := 0 < s.size ∧ ∀ j : Nat, j < s.size → ¬ Off (bt s (j : Int))

theorem gap_is (c : Int) : spec_isScGap.f c = some (decide (c = 32 ∨ c = 9 ∨ c = 13 ∨ c = 10)) := by
  unfold spec_isScGap.f
  by_cases h1 : c = 32
  · rw [if_pos h1, decide_eq_true (by omega)]
  rw [if_neg h1]
  by_cases h2 : c = 9
  · rw [if_pos h2, decide_eq_true (by omega)]
  rw [if_neg h2]
  by_cases h3 : c = 13
  · rw [if_pos h3, decide_eq_true (by omega)]
  rw [if_neg h3]
  by_cases h4 : c = 10
  · subst h4; rfl
  · rw [decide_eq_false (by omega)]; simp [h4]

theorem plain_tells (s : ByteArray) (hs : s.size ≤ 2097152) (d : Nat) : ∀ (k i : Nat), i ≤ s.size → s.size - i = d → d < k →
    ∃ b, spec_ScPlain.l0 k s (i : Int) = some b ∧ (b = true → 0 < s.size ∧ ∀ j : Nat, i ≤ j → j < s.size → ¬ Off (bt s (j : Int))) := by
  induction d with
  | zero =>
    intro k i h1 hd hk
    obtain ⟨k, rfl⟩ : ∃ m, k = m + 1 := ⟨k - 1, by omega⟩
    refine ⟨decide ((s.size : Int) > 0), by simp only [spec_ScPlain.l0]; rw [if_neg (by omega)], fun h => ?_⟩
    have : (s.size : Int) > 0 := by simpa using h
    exact ⟨by omega, fun j _ _ => by omega⟩
  | succ d ih =>
    intro k i h1 hd hk
    obtain ⟨k, rfl⟩ : ∃ m, k = m + 1 := ⟨k - 1, by omega⟩
    obtain ⟨b, hb, ht⟩ := ih k (i + 1) (by omega) (by omega) (by omega)
    simp only [spec_ScPlain.l0]
    rw [if_pos (by omega), if_pos (by omega), gap_is]
    simp only [Option.bind_some]
    rw [wrap_next (n := s.size) (by omega) (by omega) (by omega), show (i : Int) + 1 = ((i + 1 : Nat) : Int) from by omega, hb]
    by_cases h1 : bt s (i : Int) = 32 ∨ bt s (i : Int) = 9 ∨ bt s (i : Int) = 13 ∨ bt s (i : Int) = 10
    · rw [decide_eq_true h1, if_pos rfl]; exact ⟨false, rfl, fun h => by cases h⟩
    rw [decide_eq_false h1, if_neg (by simp)]
    by_cases h2 : bt s (i : Int) = 39
    · rw [if_pos h2]; exact ⟨false, rfl, fun h => by cases h⟩
    rw [if_neg h2]
    by_cases h3 : bt s (i : Int) = 35
    · rw [if_pos h3]; exact ⟨false, rfl, fun h => by cases h⟩
    rw [if_neg h3]
    refine ⟨b, rfl, fun h => ?_⟩
    obtain ⟨g1, g2⟩ := ht h
    refine ⟨g1, fun j hj hjs => ?_⟩
    by_cases e : j = i
    · subst e; unfold Off; omega
    · exact g2 j (by omega) hjs

theorem plain_some (s : ByteArray) (hs : s.size ≤ 2097152) (k : Nat) (hk : s.size < k) : ∃ b, spec_ScPlain.f k s = some b ∧ (b = true → PlainW s) := by
  obtain ⟨b, hb, ht⟩ := plain_tells s hs s.size k 0 (by omega) (by omega) hk
  exact ⟨b, hb, fun h => ⟨(ht h).1, fun j hj => (ht h).2 j (by omega) hj⟩⟩

/-- what scWrapGood says of words, columns and an indent -/
def Good (l : List ByteArray) (cols : Int) (indent : ByteArray) : Prop :=
  (∀ s ∈ l, PlainW s) ∧ (∀ j : Nat, j < indent.size → bt indent (j : Int) = 32 ∨ bt indent (j : Int) = 9) ∧ 0 < l.length ∧ 0 < cols ∧ cols ≤ 1000

theorem good_indent (l : List ByteArray) (cols : Int) (s : ByteArray) (hs : s.size ≤ 2097152) (d : Nat) : ∀ (k i : Nat), i ≤ s.size → s.size - i = d → d < k →
    ∃ b, laws_scWrapGood.l1 k l cols s (i : Int) = some b ∧ (b = true → (∀ j : Nat, i ≤ j → j < s.size → bt s (j : Int) = 32 ∨ bt s (j : Int) = 9) ∧ 0 < l.length ∧ 0 < cols ∧ cols ≤ 1000) := by
  induction d with
  | zero =>
    intro k i h1 hd hk
    obtain ⟨k, rfl⟩ : ∃ m, k = m + 1 := ⟨k - 1, by omega⟩
    simp only [laws_scWrapGood.l1]
    rw [if_neg (by omega)]
    by_cases h2 : (l.length : Int) > 0
    · rw [if_pos h2]
      by_cases h3 : cols > 0
      · rw [if_pos h3]
        refine ⟨_, rfl, fun h => ⟨fun j _ _ => by omega, by omega, by omega, by simpa using h⟩⟩
      · rw [if_neg h3]; exact ⟨false, rfl, fun h => by cases h⟩
    · rw [if_neg h2]; exact ⟨false, rfl, fun h => by cases h⟩
  | succ d ih =>
    intro k i h1 hd hk
    obtain ⟨k, rfl⟩ : ∃ m, k = m + 1 := ⟨k - 1, by omega⟩
    obtain ⟨b, hb, ht⟩ := ih k (i + 1) (by omega) (by omega) (by omega)
    simp only [laws_scWrapGood.l1]
    rw [if_pos (by omega), if_pos (by omega), wrap_next (n := s.size) (by omega) (by omega) (by omega), show (i : Int) + 1 = ((i + 1 : Nat) : Int) from by omega, hb]
    have go : bt s (i : Int) = 32 ∨ bt s (i : Int) = 9 → b = true → (∀ j : Nat, i ≤ j → j < s.size → bt s (j : Int) = 32 ∨ bt s (j : Int) = 9) ∧ 0 < l.length ∧ 0 < cols ∧ cols ≤ 1000 := by
      intro h h'
      obtain ⟨g1, g2⟩ := ht h'
      refine ⟨fun j hj hjs => ?_, g2⟩
      by_cases e : j = i
      · subst e; exact h
      · exact g1 j (by omega) hjs
    by_cases h2 : bt s (i : Int) = 32
    · rw [if_pos h2]; exact ⟨b, rfl, go (.inl h2)⟩
    rw [if_neg h2]
    by_cases h3 : bt s (i : Int) = 9
    · rw [if_pos h3]; exact ⟨b, rfl, go (.inr h3)⟩
    rw [if_neg h3]
    exact ⟨false, rfl, fun h => by cases h⟩

theorem good_words (l : List ByteArray) (cols : Int) (s : ByteArray) (hw : wt l ≤ 2097152) (hs : s.size ≤ 2097152) (d : Nat) : ∀ (k i : Nat), i ≤ l.length → l.length - i = d → d + 2097153 < k →
    ∃ b, laws_scWrapGood.l0 k l cols s l (l.length : Int) (i : Int) = some b ∧ (b = true → (∀ j (h : j < l.length), i ≤ j → PlainW l[j]) ∧ (∀ j : Nat, j < s.size → bt s (j : Int) = 32 ∨ bt s (j : Int) = 9) ∧ 0 < l.length ∧ 0 < cols ∧ cols ≤ 1000) := by
  have hlen := wt_length l
  induction d with
  | zero =>
    intro k i h1 hd hk
    obtain ⟨k, rfl⟩ : ∃ m, k = m + 1 := ⟨k - 1, by omega⟩
    simp only [laws_scWrapGood.l0]
    rw [if_neg (by omega)]
    obtain ⟨b, hb, ht⟩ := good_indent l cols s hs s.size k 0 (by omega) (by omega) (by omega)
    exact ⟨b, hb, fun h => ⟨fun j hj _ => by omega, fun j hj => (ht h).1 j (by omega) hj, (ht h).2⟩⟩
  | succ d ih =>
    intro k i h1 hd hk
    obtain ⟨k, rfl⟩ : ∃ m, k = m + 1 := ⟨k - 1, by omega⟩
    have hi : i < l.length := by omega
    have hsz : (l[i]).size ≤ wt l := wt_mem (List.getElem_mem hi)
    obtain ⟨b, hb, ht⟩ := ih k (i + 1) (by omega) (by omega) (by omega)
    obtain ⟨p, hp, hpt⟩ := plain_some l[i] (by omega) k (by omega)
    simp only [laws_scWrapGood.l0]
    rw [if_pos (by omega), if_pos (by omega), if_pos (by omega), rdOf_at l i hi, hp]
    simp only [Option.bind_some]
    cases p with
    | false => rw [if_neg (by simp)]; exact ⟨false, rfl, fun h => by cases h⟩
    | true =>
      rw [if_pos rfl, wrap_next (n := l.length) (by omega) (by omega) (by omega), show (i : Int) + 1 = ((i + 1 : Nat) : Int) from by omega, hb]
      refine ⟨b, rfl, fun h => ?_⟩
      obtain ⟨g1, g2⟩ := ht h
      refine ⟨fun j hj hij => ?_, g2⟩
      by_cases e : j = i
      · subst e; exact hpt rfl
      · exact g1 j hj (by omega)

theorem good_some (l : List ByteArray) (cols : Int) (s : ByteArray) (hw : wt l ≤ 2097152) (hs : s.size ≤ 2097152) :
    ∃ b, laws_scWrapGood.f (l.length + 2097154) l cols s = some b ∧ (b = true → Good l cols s) := by
  obtain ⟨b, hb, ht⟩ := good_words l cols s hw hs l.length (l.length + 2097154) 0 (by omega) (by omega) (by omega)
  refine ⟨b, hb, fun h => ?_⟩
  obtain ⟨g1, g2, g3, g4, g5⟩ := ht h
  refine ⟨fun x hx => ?_, g2, g3, g4, g5⟩
  obtain ⟨j, hj, rfl⟩ := List.mem_iff_getElem.1 hx
  exact g1 j hj (by omega)

/-- bytes as the list has them -/
theorem bt_list (s : ByteArray) (i : Nat) (c : Nat) (hc : c < 256) : bt s (i : Int) = c ∧ i < s.size ↔ s.data.toList[i]? = some (UInt8.ofNat c) := by
  have hl : s.data.toList.length = s.size := by rw [Array.length_toList]; rfl
  constructor
  · rintro ⟨h, hi⟩
    rw [Wrap.bt_get s i hi] at h
    rw [List.getElem?_eq_getElem (by omega)]
    have e : s.data.toList[i] = s[i] := by simp [Array.getElem_toList]; rfl
    rw [e]
    congr 1
    apply UInt8.toNat_inj.1
    rw [UInt8.toNat_ofNat']
    omega
  · intro h
    obtain ⟨hi, he⟩ := List.getElem?_eq_some_iff.1 h
    have hi' : i < s.size := by omega
    refine ⟨?_, hi'⟩
    rw [Wrap.bt_get s i hi']
    have e : s.data.toList[i] = s[i] := by simp [Array.getElem_toList]; rfl
    rw [← e, he, UInt8.toNat_ofNat']
    omega

/-- a text that neither begins nor ends with a blank, nor has two side by side -/
def Tidy (s : ByteArray) : Prop := 0 < s.size ∧ bt s 0 ≠ 32 ∧ bt s ((s.size - 1 : Nat) : Int) ≠ 32 ∧ ∀ i : Nat, i + 1 < s.size → bt s (i : Int) = 32 → bt s ((i + 1 : Nat) : Int) ≠ 32
def TidyL (L : List UInt8) : Prop := L ≠ [] ∧ L[0]? ≠ some 32 ∧ L[L.length - 1]? ≠ some 32 ∧ ∀ i : Nat, L[i]? = some 32 → L[i + 1]? ≠ some 32

theorem tidy_of (s : ByteArray) (h : TidyL s.data.toList) : Tidy s := by
  have hl : s.data.toList.length = s.size := by rw [Array.length_toList]; rfl
  obtain ⟨h1, h2, h3, h4⟩ := h
  have h0 : 0 < s.size := by
    rcases Nat.eq_zero_or_pos s.size with e | e
    · exact absurd (List.eq_nil_of_length_eq_zero (by omega)) h1
    · exact e
  have key : ∀ i : Nat, i < s.size → bt s (i : Int) = 32 → s.data.toList[i]? = some 32 := fun i hi h => (bt_list s i 32 (by decide)).1 ⟨h, hi⟩
  refine ⟨h0, fun h => h2 (key 0 h0 h), fun h => h3 (by rw [hl]; exact key _ (by omega) h), fun i hi h h' => h4 i (key i (by omega) h) (key _ hi h')⟩

theorem plain_list (s : ByteArray) (h : PlainW s) : s.data.toList ≠ [] ∧ ∀ b ∈ s.data.toList, b ≠ 32 ∧ b ≠ 10 := by
  have hl : s.data.toList.length = s.size := by rw [Array.length_toList]; rfl
  constructor
  · intro e
    have := congrArg List.length e
    rw [List.length_nil] at this
    have := h.1
    omega
  · intro b hb
    obtain ⟨i, hi, rfl⟩ := List.mem_iff_getElem.1 hb
    have hn := h.2 i (by omega)
    constructor
    · intro e
      exact hn (.inl ((bt_list s i 32 (by decide)).2 (by rw [List.getElem?_eq_getElem hi, e]; rfl)).1)
    · intro e
      exact hn (.inr (.inr (.inr (.inl ((bt_list s i 10 (by decide)).2 (by rw [List.getElem?_eq_getElem hi, e]; rfl)).1))))

theorem tidy_plain {L : List UInt8} (h0 : L ≠ []) (h : ∀ b ∈ L, b ≠ 32) : TidyL L := by
  have key : ∀ i : Nat, L[i]? ≠ some 32 := by
    intro i e
    obtain ⟨hi, he⟩ := List.getElem?_eq_some_iff.1 e
    exact h _ (List.getElem_mem hi) he
  exact ⟨h0, key _, key _, fun i e => absurd e (key i)⟩

theorem tidy_join {A L : List UInt8} (h0 : A ≠ []) (h : ∀ b ∈ A, b ≠ 32) (hL : TidyL L) : TidyL (A ++ [32] ++ L) := by
  obtain ⟨l1, l2, l3, l4⟩ := hL
  have key : ∀ i : Nat, i < A.length → (A ++ [32] ++ L)[i]? ≠ some 32 := by
    intro i hi e
    rw [List.append_assoc, List.getElem?_append_left hi] at e
    obtain ⟨hi, he⟩ := List.getElem?_eq_some_iff.1 e
    exact h _ (List.getElem_mem hi) he
  have rest : ∀ i : Nat, (A ++ [32] ++ L)[A.length + 1 + i]? = L[i]? := by
    intro i
    rw [List.getElem?_append_right (by simp)]
    congr 1
    simp
  have hA : 0 < A.length := List.length_pos_iff.2 h0
  have hLl : 0 < L.length := List.length_pos_iff.2 l1
  refine ⟨by simp, key 0 hA, ?_, fun i e => ?_⟩
  · have e : (A ++ [32] ++ L).length - 1 = A.length + 1 + (L.length - 1) := by simp; omega
    rw [e, rest]; exact l3
  · rcases Nat.lt_trichotomy i A.length with h1 | h1 | h1
    · exact absurd e (key i h1)
    · subst h1
      have := rest 0
      rw [Nat.add_zero] at this
      rw [this]; exact l2
    · obtain ⟨j, rfl⟩ : ∃ j, i = A.length + 1 + j := ⟨i - A.length - 1, by omega⟩
      rw [rest] at e
      rw [Nat.add_assoc, rest]
      exact l4 j e

theorem joined_tidy (l : List ByteArray) (h0 : l ≠ []) (h : ∀ s ∈ l, PlainW s) : TidyL (joined l) := by
  induction l with
  | nil => exact absurd rfl h0
  | cons x l ih =>
    obtain ⟨x0, x1⟩ := plain_list x (h x List.mem_cons_self)
    cases l with
    | nil => exact tidy_plain x0 fun b hb => (x1 b hb).1
    | cons y l => exact tidy_join x0 (fun b hb => (x1 b hb).1) (ih (by simp) fun s hs => h s (List.mem_cons_of_mem _ hs))

theorem joined_no_newline (l : List ByteArray) (h : ∀ s ∈ l, PlainW s) : ∀ b ∈ joined l, b ≠ 10 := by
  induction l with
  | nil => intro b hb; cases hb
  | cons x l ih =>
    obtain ⟨x0, x1⟩ := plain_list x (h x List.mem_cons_self)
    cases l with
    | nil => exact fun b hb => (x1 b hb).2
    | cons y l =>
      intro b hb
      simp only [joined, List.mem_append, List.mem_singleton] at hb
      rcases hb with (hb | rfl) | hb
      · exact (x1 b hb).2
      · decide
      · exact ih (fun s hs => h s (List.mem_cons_of_mem _ hs)) b hb

end Go.Proofs.Ytcblhkcdolaigaa.WordsP

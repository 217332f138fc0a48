/- What the printed functions answer where a variable stands in a text, in braces or not; and how a text is expanded, piece by piece. -/
import Derived.Test.YtopmkiadoacipaaXp
import Derived.Test.YtopmkiadoacipaaPFnExpandMadex3
namespace Go.Proofs.Ytopmkiadoacipaa.Xp
open Go.RowKit Go.Proofs.YtopmkiadoacipaaW.PrintWords Go.Proofs.YtopmkiadoacipaaW.PrintLast Go.Proofs.Ytopmkiadoacipaa.PFnExpandMade

/-- a letter, a digit or an underscore -/
def aln (c : Int) : Bool := decide ((97 ≤ c ∧ c ≤ 122) ∨ (65 ≤ c ∧ c ≤ 90) ∨ (48 ≤ c ∧ c ≤ 57) ∨ c = 95)

theorem alnum_is (c : Int) : spec_ScAlnum.f c = some (aln c) := by
  unfold spec_ScAlnum.f aln
  repeat' split
  all_goals rw [Option.some.injEq]
  all_goals first
    | exact (decide_eq_true (by omega)).symm
    | (by_cases e : c = 95
       · subst e; rfl
       · rw [decide_eq_false (by omega)]; simp [e])

theorem alphanum_is (c : Int) : osexpand_isAlphaNum.f c = some (aln c) := by
  unfold osexpand_isAlphaNum.f aln
  repeat' split
  all_goals rw [Option.some.injEq]
  all_goals first
    | exact (decide_eq_true (by omega)).symm
    | exact (decide_eq_false (by omega)).symm
    | (congr 1; apply propext; omega)

theorem special_no (c : Int) (h : aln c = true) (hd : ¬ (48 ≤ c ∧ c ≤ 57)) : osexpand_isShellSpecialVar.f c = some false := by
  have h' : (97 ≤ c ∧ c ≤ 122) ∨ (65 ≤ c ∧ c ≤ 90) ∨ (48 ≤ c ∧ c ≤ 57) ∨ c = 95 := by simpa [aln] using h
  unfold osexpand_isShellSpecialVar.f
  repeat (rw [if_neg (by omega)])

theorem wrap_next {i : Int} {n : Nat} (h0 : 0 ≤ i) (h : i < (n : Int)) (hn : n ≤ 562949953421312) : wrap64 (i + 1) = i + 1 := by
  unfold wrap64
  omega

/-- what ScVariable says, from place i on -/
theorem variable_tells (s : ByteArray) (hn : s.size ≤ 562949953421312) (d : Nat) : ∀ (k : Nat) (i : Int), 0 ≤ i → i ≤ s.size → (s.size : Int) - i = d → d < k →
    ∃ b, spec_ScVariable.l0 k s i = some b ∧ (b = true → (0 < s.size ∧ (∀ j : Int, i ≤ j → j < s.size → aln (bt s j) = true) ∧ (i = 0 → ¬ (48 ≤ bt s 0 ∧ bt s 0 ≤ 57)))) := by
  induction d with
  | zero =>
    intro k i h0 h1 hd hk
    obtain ⟨k, rfl⟩ : ∃ m, k = m + 1 := ⟨k - 1, by omega⟩
    refine ⟨decide ((s.size : Int) > 0), by simp only [spec_ScVariable.l0]; rw [if_neg (by omega)], ?_⟩
    intro hb
    have hb' : (s.size : Int) > 0 := by simpa using hb
    exact ⟨by omega, fun j _ _ => by omega, fun _ => by omega⟩
  | succ d ih =>
    intro k i h0 h1 hd hk
    obtain ⟨k, rfl⟩ : ∃ m, k = m + 1 := ⟨k - 1, by omega⟩
    have hlt : i < (s.size : Int) := by omega
    obtain ⟨b, hb, ht⟩ := ih k (i + 1) (by omega) (by omega) (by omega) (by omega)
    have hw := wrap_next h0 hlt hn
    simp only [spec_ScVariable.l0]
    rw [if_pos hlt, if_pos h0, alnum_is]
    simp only [Option.bind_some]
    rw [hw, hb]
    by_cases ha : aln (bt s i) = true
    · rw [if_pos ha]
      have go : ¬ (i = 0 ∧ 48 ≤ bt s i ∧ bt s i ≤ 57) → (b = true → (0 < s.size ∧ (∀ j : Int, i ≤ j → j < s.size → aln (bt s j) = true) ∧ (i = 0 → ¬ (48 ≤ bt s 0 ∧ bt s 0 ≤ 57)))) := by
        intro hno hbt
        obtain ⟨g1, g2, _⟩ := ht hbt
        refine ⟨g1, ?_, ?_⟩
        · intro j hj hjs
          by_cases e : j = i
          · subst e; exact ha
          · exact g2 j (by omega) hjs
        · intro e; subst e; intro hh; exact hno ⟨rfl, hh⟩
      by_cases e0 : i = 0
      · rw [if_pos e0]
        by_cases e1 : bt s i ≥ 48
        · rw [if_pos e1]
          by_cases e2 : bt s i ≤ 57
          · rw [if_pos e2]; exact ⟨false, rfl, fun h => by cases h⟩
          · rw [if_neg e2]; exact ⟨b, rfl, go (by omega)⟩
        · rw [if_neg e1]; exact ⟨b, rfl, go (by omega)⟩
      · rw [if_neg e0]; exact ⟨b, rfl, go (by omega)⟩
    · rw [if_neg ha]; exact ⟨false, rfl, fun h => by cases h⟩

/-- the scan of letters stands still at the first byte that is none -/
theorem scan_is (s : ByteArray) (hs : s.size ≤ 562949953421312) (n : Nat) (hn : n ≤ s.size) (ha : ∀ j : Int, 0 ≤ j → j < n → aln (bt s j) = true)
    (hb : n < s.size → aln (bt s n) = false) (d : Nat) : ∀ (k : Nat) (i : Int), 0 ≤ i → i ≤ n → (n : Int) - i = d → d < k →
    osexpand_getShellName.l1 k s i = some (s.extract 0 n, (n : Int)) := by
  induction d with
  | zero =>
    intro k i h0 h1 hd hk
    obtain ⟨k, rfl⟩ : ∃ m, k = m + 1 := ⟨k - 1, by omega⟩
    obtain rfl : i = (n : Int) := by omega
    simp only [osexpand_getShellName.l1]
    by_cases hlt : (n : Int) < (s.size : Int)
    · rw [if_pos hlt, if_pos h0, alphanum_is]
      simp only [Option.bind_some]
      rw [hb (by omega), if_neg (by simp), if_pos (by omega)]
      simp
    · rw [if_neg hlt, if_pos h0, if_pos (by omega)]
      simp
  | succ d ih =>
    intro k i h0 h1 hd hk
    obtain ⟨k, rfl⟩ : ∃ m, k = m + 1 := ⟨k - 1, by omega⟩
    have hlt : i < (s.size : Int) := by omega
    simp only [osexpand_getShellName.l1]
    rw [if_pos hlt, if_pos h0, alphanum_is]
    simp only [Option.bind_some]
    rw [ha i h0 (by omega), if_pos rfl, wrap_next h0 hlt hs]
    exact ih k (i + 1) (by omega) (by omega) (by omega) (by omega)

theorem bt_left (a b : ByteArray) (i : Int) (h : i.toNat < a.size) : bt (a ++ b) i = bt a i := by
  have h' : i.toNat < (a ++ b).size := by rw [ByteArray.size_append]; omega
  unfold bt
  rw [dif_pos h', dif_pos h, ByteArray.getElem_append_left h]

theorem bt_right (a b : ByteArray) (i j : Int) (h : i.toNat = a.size + j.toNat) : bt (a ++ b) i = bt b j := by
  unfold bt
  by_cases hj : j.toNat < b.size
  · have h' : i.toNat < (a ++ b).size := by rw [ByteArray.size_append]; omega
    rw [dif_pos h', dif_pos hj, ByteArray.getElem_append_right (by omega)]
    simp [h]
  · have h' : ¬ i.toNat < (a ++ b).size := by rw [ByteArray.size_append]; omega
    rw [dif_neg h', dif_neg hj]

theorem has_tells (s : ByteArray) (c : Int) (hn : s.size ≤ 562949953421312) (d : Nat) : ∀ (k : Nat) (i : Int), 0 ≤ i → i ≤ s.size → (s.size : Int) - i = d → d < k →
    ∃ b, spec_ScHas.l0 k s c i = some b ∧ (b = false → ∀ j : Int, i ≤ j → j < s.size → bt s j ≠ c) := by
  induction d with
  | zero =>
    intro k i h0 h1 hd hk
    obtain ⟨k, rfl⟩ : ∃ m, k = m + 1 := ⟨k - 1, by omega⟩
    exact ⟨false, by simp only [spec_ScHas.l0]; rw [if_neg (by omega)], fun _ j _ _ => by omega⟩
  | succ d ih =>
    intro k i h0 h1 hd hk
    obtain ⟨k, rfl⟩ : ∃ m, k = m + 1 := ⟨k - 1, by omega⟩
    have hlt : i < (s.size : Int) := by omega
    obtain ⟨b, hb, ht⟩ := ih k (i + 1) (by omega) (by omega) (by omega) (by omega)
    simp only [spec_ScHas.l0]
    rw [if_pos hlt, if_pos h0, wrap_next h0 hlt hn]
    by_cases e : bt s i = c
    · rw [if_pos e]; exact ⟨true, rfl, fun h => by cases h⟩
    · rw [if_neg e]
      refine ⟨b, hb, fun hbf j hj hjs => ?_⟩
      by_cases ej : j = i
      · subst ej; exact e
      · exact ht hbf j (by omega) hjs

/-- the scan for the brace that closes -/
theorem brace_is (s : ByteArray) (hs : s.size ≤ 562949953421312) (n : Nat) (h2 : 2 ≤ n) (hn : n < s.size) (ha : ∀ j : Int, 1 ≤ j → j < n → bt s j ≠ 125)
    (hb : bt s n = 125) (d : Nat) : ∀ (k : Nat) (i : Int), 1 ≤ i → i ≤ n → (n : Int) - i = d → d < k →
    osexpand_getShellName.l0 k s i = some (s.extract 1 n, (n : Int) + 1) := by
  induction d with
  | zero =>
    intro k i h0 h1 hd hk
    obtain ⟨k, rfl⟩ : ∃ m, k = m + 1 := ⟨k - 1, by omega⟩
    obtain rfl : i = (n : Int) := by omega
    simp only [osexpand_getShellName.l0]
    rw [if_pos (by omega), if_pos (by omega), if_pos hb, if_neg (by omega), if_pos (by omega), if_pos (by omega), wrap_next (n := s.size) (by omega) (by omega) hs]
    simp
  | succ d ih =>
    intro k i h0 h1 hd hk
    obtain ⟨k, rfl⟩ : ∃ m, k = m + 1 := ⟨k - 1, by omega⟩
    have hlt : i < (s.size : Int) := by omega
    simp only [osexpand_getShellName.l0]
    rw [if_pos hlt, if_pos (by omega), if_neg (ha i h0 (by omega)), wrap_next (by omega) hlt hs]
    exact ih k (i + 1) (by omega) (by omega) (by omega) (by omega)

theorem ext_left (x y : ByteArray) (i j : Nat) (h : j ≤ x.size) : (x ++ y).extract i j = x.extract i j := by
  rw [ByteArray.extract_append]
  have e : y.extract (i - x.size) (j - x.size) = ByteArray.empty := by
    rw [show j - x.size = 0 from by omega]
    simp
  rw [e]; simp

theorem ite_ex {c : Prop} [Decidable c] {a : Bool} {o : Option Bool} (h : ∃ x, o = some x) : ∃ x, (if c then some a else o) = some x := by
  by_cases hc : c
  · exact ⟨a, if_pos hc⟩
  · rw [if_neg hc]; exact h

abbrev lb : ByteArray := ⟨#[123]⟩
abbrev rb : ByteArray := ⟨#[125]⟩

theorem brace_name (a b : ByteArray) (hs : a.size + b.size ≤ 281474976710656) (h0 : 0 < a.size) (ha : ∀ j : Int, 0 ≤ j → j < a.size → bt a j ≠ 125) (k : Nat) (hk : a.size + 1 < k) :
    osexpand_getShellName.f k (((lb ++ a) ++ rb) ++ b) = some (a, (a.size : Int) + 2) := by
  have hl1 : lb.size = 1 := rfl
  have hr1 : rb.size = 1 := rfl
  have hz1 : (lb ++ a).size = 1 + a.size := by rw [ByteArray.size_append, hl1]
  have hz2 : ((lb ++ a) ++ rb).size = 1 + a.size + 1 := by rw [ByteArray.size_append, hz1, hr1]
  have hz : (((lb ++ a) ++ rb) ++ b).size = 1 + a.size + 1 + b.size := by rw [ByteArray.size_append, hz2]
  have e0 : bt (((lb ++ a) ++ rb) ++ b) 0 = 123 := by
    rw [bt_left _ _ _ (by rw [hz2]; omega), bt_left _ _ _ (by rw [hz1]; omega), bt_left _ _ _ (by decide)]; rfl
  have ea : ∀ j : Int, 0 ≤ j → j < a.size → bt (((lb ++ a) ++ rb) ++ b) (j + 1) = bt a j := by
    intro j h1 h2
    rw [bt_left _ _ _ (by rw [hz2]; omega), bt_left _ _ _ (by rw [hz1]; omega), bt_right _ _ _ j (by rw [hl1]; omega)]
  have er : bt (((lb ++ a) ++ rb) ++ b) ((a.size : Int) + 1) = 125 := by
    rw [bt_left _ _ _ (by rw [hz2]; omega), bt_right _ _ _ 0 (by rw [hz1]; omega)]; rfl
  have ex : ∀ m : Nat, m = 1 + a.size → (((lb ++ a) ++ rb) ++ b).extract 1 m = a := by
    intro m hm
    subst hm
    rw [ext_left _ _ _ _ (by rw [hz2]; omega), ext_left _ _ _ _ (by rw [hz1]; omega), ByteArray.extract_append_eq_right (i := 1) (j := 1 + a.size) hl1.symm (by rw [hl1])]
  have scan : ∀ k : Nat, a.size < k → osexpand_getShellName.l0 k (((lb ++ a) ++ rb) ++ b) 1 = some (a, (a.size : Int) + 2) := by
    intro k hk
    have h := brace_is (((lb ++ a) ++ rb) ++ b) (by rw [hz]; omega) (1 + a.size) (by omega) (by rw [hz]; omega)
      (fun j h1 h2 => by
        have e := ea (j - 1) (by omega) (by omega)
        rw [show j - 1 + 1 = j from by omega] at e
        rw [e]; exact ha (j - 1) (by omega) (by omega))
      (by rw [show ((1 + a.size : Nat) : Int) = (a.size : Int) + 1 from by omega]; exact er) a.size k 1 (by omega) (by omega) (by omega) (by omega)
    rw [h, ex _ rfl]
    congr 2
    omega
  have sub : ∀ x : Bool, (x = true → a.size = 1) → osexpand_getShellName.j0 k (((lb ++ a) ++ rb) ++ b) x = some (a, (a.size : Int) + 2) := by
    intro x hx
    obtain ⟨k, rfl⟩ : ∃ m, k = m + 1 := ⟨k - 1, by omega⟩
    simp only [osexpand_getShellName.j0]
    cases x with
    | true =>
      have h1 := hx rfl
      rw [if_pos rfl, if_pos (by omega), if_pos (by rw [hz]; omega), ex 2 (by omega), h1]
      rfl
    | false =>
      rw [if_neg (by simp)]
      exact scan k (by omega)
  unfold osexpand_getShellName.f
  rw [if_pos (by rw [hz]; omega), if_pos e0, if_pos (by rw [hz]; omega), if_pos (by rw [hz]; omega)]
  have hsp : ∀ c : Int, ∃ x, osexpand_isShellSpecialVar.f c = some x := by
    intro c
    unfold osexpand_isShellSpecialVar.f
    iterate 17 refine ite_ex ?_
    exact ⟨_, rfl⟩
  obtain ⟨x, hx⟩ := hsp (bt (((lb ++ a) ++ rb) ++ b) 1)
  rw [hx]
  simp only [Option.bind_some]
  cases x with
  | false => rw [if_neg (by simp)]; exact sub false (by simp)
  | true =>
    rw [if_pos rfl, if_pos (by rw [hz]; omega)]
    apply sub
    intro h
    have h' : bt (((lb ++ a) ++ rb) ++ b) 2 = 125 := by simpa using h
    by_cases e : 2 ≤ a.size
    · exact absurd ((ea 1 (by omega) (by omega)).symm.trans h') (ha 1 (by omega) (by omega))
    · omega

theorem var_name (a b : ByteArray) (hs : (a ++ b).size ≤ 562949953421312) (h0 : 0 < a.size) (ha : ∀ j : Int, 0 ≤ j → j < a.size → aln (bt a j) = true)
    (hd : ¬ (48 ≤ bt a 0 ∧ bt a 0 ≤ 57)) (hb : 0 < b.size → aln (bt b 0) = false) (k : Nat) (hk : a.size < k) :
    osexpand_getShellName.f k (a ++ b) = some (a, (a.size : Int)) := by
  have hz : (a ++ b).size = a.size + b.size := ByteArray.size_append
  have hl : ∀ j : Int, 0 ≤ j → j < a.size → bt (a ++ b) j = bt a j := fun j _ _ => bt_left a b j (by omega)
  have h00 : bt (a ++ b) 0 = bt a 0 := hl 0 (by omega) (by omega)
  have a0 := ha 0 (by omega) (by omega)
  have a0' : (97 ≤ bt a 0 ∧ bt a 0 ≤ 122) ∨ (65 ≤ bt a 0 ∧ bt a 0 ≤ 90) ∨ (48 ≤ bt a 0 ∧ bt a 0 ≤ 57) ∨ bt a 0 = 95 := by simpa [aln] using a0
  have hsc := scan_is (a ++ b) hs a.size (by omega) (fun j h1 h2 => by rw [hl j h1 h2]; exact ha j h1 h2)
    (fun hlt => by rw [bt_right a b (a.size : Int) 0 (by simp)]; exact hb (by omega)) a.size k 0 (by omega) (by omega) (by omega) hk
  rw [ByteArray.extract_append_eq_left rfl] at hsc
  unfold osexpand_getShellName.f
  rw [if_pos (by omega), h00, if_neg (by omega), special_no _ a0 hd]
  simp only [Option.bind_some]
  rw [if_neg (by simp), hsc]


theorem shift_ext (a t : ByteArray) (i j : Nat) : (a ++ t).extract (a.size + i) (a.size + j) = t.extract i j := by
  rw [ByteArray.extract_append]
  have e : a.extract (a.size + i) (a.size + j) = ByteArray.empty := by rw [ByteArray.extract_eq_empty_iff]; omega
  rw [e, show a.size + i - a.size = i from by omega, show a.size + j - a.size = j from by omega]
  simp

/-- only what lies from the place on counts -/
theorem ex_shift (f : ByteArray → ByteArray) (a t : ByteArray) {j : Nat} {r : ByteArray} (h : Ex f t j r) : Ex f (a ++ t) (a.size + j) r := by
  have hz : (a ++ t).size = a.size + t.size := ByteArray.size_append
  have hbt : ∀ j : Nat, bt (a ++ t) ((a.size + j : Nat) : Int) = bt t (j : Int) := fun j => bt_right a t _ _ (by rw [Int.toNat_natCast, Int.toNat_natCast])
  induction h with
  | done h => exact .done (by omega)
  | @lit j r h1 h2 _ ih =>
    have e : t.extract j (j + 1) = (a ++ t).extract (a.size + j) (a.size + j + 1) := by rw [show a.size + j + 1 = a.size + (j + 1) from by omega, shift_ext]
    rw [e]
    exact .lit (by omega) (by rw [hbt]; intro h; exact h2 ⟨h.1, by omega⟩) ih
  | @var j k m name r h1 h2 h3 h4 h5 h6 _ ih =>
    exact .var (k := k) (m := m) (by rw [hbt]; exact h1) (by omega) (by rw [hz, show a.size + j + 1 = a.size + (j + 1) from by omega, shift_ext]; exact h3) h4 h5 (by omega) (by rw [show a.size + j + 1 + m = a.size + (j + 1 + m) from by omega]; exact ih)
  | @eat j k m r h1 h2 h3 h4 h5 _ ih =>
    exact .eat (k := k) (m := m) (by rw [hbt]; exact h1) (by omega) (by rw [hz, show a.size + j + 1 = a.size + (j + 1) from by omega, shift_ext]; exact h3) h4 (by omega) (by rw [show a.size + j + 1 + m = a.size + (j + 1 + m) from by omega]; exact ih)
  | @keep j k r h1 h2 h3 _ ih =>
    exact .keep (k := k) (by rw [hbt]; exact h1) (by omega) (by rw [hz, show a.size + j + 1 = a.size + (j + 1) from by omega, shift_ext]; exact h3) ih

theorem ex_nil (f : ByteArray → ByteArray) : Ex f ByteArray.empty 0 ByteArray.empty := .done (Nat.le_refl _)

theorem ex_plain_from (f : ByteArray → ByteArray) (a t r : ByteArray) (ha : ∀ j : Nat, j < a.size → bt a (j : Int) ≠ 36) (h : Ex f t 0 r) (d : Nat) : ∀ j, j ≤ a.size → a.size - j = d → Ex f (a ++ t) j (a.extract j a.size ++ r) := by
  have hz : (a ++ t).size = a.size + t.size := ByteArray.size_append
  induction d with
  | zero =>
    intro j h1 h2
    obtain rfl : j = a.size := by omega
    have := ex_shift f a t h
    rw [ext_nil]
    simpa using this
  | succ d ih =>
    intro j h1 h2
    have e : a.extract j a.size ++ r = (a ++ t).extract j (j + 1) ++ (a.extract (j + 1) a.size ++ r) := by
      rw [ext_left _ _ _ _ (by omega), ← ByteArray.append_assoc, ByteArray.extract_append_extract, show min j (j + 1) = j from by omega, show max (j + 1) a.size = a.size from by omega]
    rw [e]
    exact .lit (by omega) (by rw [bt_left a t _ (by omega)]; intro h; exact ha j (by omega) h.1) (ih (j + 1) (by omega) (by omega))

/-- a text without $ stays -/
theorem ex_plain (f : ByteArray → ByteArray) (a t r : ByteArray) (ha : ∀ j : Nat, j < a.size → bt a (j : Int) ≠ 36) (h : Ex f t 0 r) : Ex f (a ++ t) 0 (a ++ r) := by
  have := ex_plain_from f a t r ha h a.size 0 (by omega) (by omega)
  simpa using this

abbrev ds : ByteArray := ⟨#[36]⟩

/-- a variable in braces -/
theorem ex_brace (f : ByteArray → ByteArray) (a t r : ByteArray) (hs : a.size + t.size ≤ 281474976710656) (h0 : 0 < a.size) (ha : ∀ j : Int, 0 ≤ j → j < a.size → bt a j ≠ 125) (h : Ex f t 0 r) :
    Ex f (ds ++ (((lb ++ a) ++ rb) ++ t)) 0 (f a ++ r) := by
  have hd : ds.size = 1 := rfl
  have hl : lb.size = 1 := rfl
  have hr : rb.size = 1 := rfl
  have hz1 : ((lb ++ a) ++ rb).size = a.size + 2 := by rw [ByteArray.size_append, ByteArray.size_append]; omega
  have hz2 : (((lb ++ a) ++ rb) ++ t).size = a.size + 2 + t.size := by rw [ByteArray.size_append, hz1]
  have hz : (ds ++ (((lb ++ a) ++ rb) ++ t)).size = 1 + (a.size + 2 + t.size) := by rw [ByteArray.size_append, hz2, hd]
  have hx : (ds ++ (((lb ++ a) ++ rb) ++ t)).extract (0 + 1) (ds ++ (((lb ++ a) ++ rb) ++ t)).size = ((lb ++ a) ++ rb) ++ t := by
    have := shift_ext ds (((lb ++ a) ++ rb) ++ t) 0 (((lb ++ a) ++ rb) ++ t).size
    rw [ByteArray.extract_zero_size] at this
    rw [hz, ← hz2]
    exact this
  have h1 := ex_shift f ds _ (ex_shift f ((lb ++ a) ++ rb) t h)
  refine .var (k := a.size + 2) (m := a.size + 2) (name := a) ?_ (by omega) (by rw [hx]; exact brace_name a t hs h0 ha _ (by omega)) (by omega) (by omega) (by omega) ?_
  · rw [bt_left _ _ _ (by decide)]; rfl
  · rw [show 0 + 1 + (a.size + 2) = ds.size + (((lb ++ a) ++ rb).size + 0) from by omega]
    exact h1

/-- a variable without braces -/
theorem ex_var (f : ByteArray → ByteArray) (a t r : ByteArray) (hs : a.size + t.size ≤ 281474976710656) (h0 : 0 < a.size) (ha : ∀ j : Int, 0 ≤ j → j < a.size → aln (bt a j) = true)
    (hd : ¬ (48 ≤ bt a 0 ∧ bt a 0 ≤ 57)) (hb : 0 < t.size → aln (bt t 0) = false) (h : Ex f t 0 r) :
    Ex f (ds ++ (a ++ t)) 0 (f a ++ r) := by
  have hd1 : ds.size = 1 := rfl
  have hz1 : (a ++ t).size = a.size + t.size := ByteArray.size_append
  have hz : (ds ++ (a ++ t)).size = 1 + (a.size + t.size) := by rw [ByteArray.size_append, hz1, hd1]
  have hx : (ds ++ (a ++ t)).extract (0 + 1) (ds ++ (a ++ t)).size = a ++ t := by
    have := shift_ext ds (a ++ t) 0 (a ++ t).size
    rw [ByteArray.extract_zero_size] at this
    rw [hz, ← hz1]
    exact this
  have h1 := ex_shift f ds _ (ex_shift f a t h)
  refine .var (k := a.size + 1) (m := a.size) (name := a) ?_ (by omega) (by rw [hx]; exact var_name a t (by omega) h0 ha hd hb _ (by omega)) (by omega) (by omega) (by omega) ?_
  · rw [bt_left _ _ _ (by decide)]; rfl
  · rw [show 0 + 1 + a.size = ds.size + (a.size + 0) from by omega]
    exact h1

end Go.Proofs.Ytopmkiadoacipaa.Xp

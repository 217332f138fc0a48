/- What ScParts, ScValue and ScExpanded say, and that a text of parts is expanded as they say. -/
import Derived.Test.YtopmkiadoacipaaParts
import Derived.Test.YtopmkiadoacipaaWritten
import Derived.Test.YtopmkiadoacipaaVars
namespace Go.Proofs.Ytopmkiadoacipaa.Made
open Go.RowKit Go.Proofs.YtopmkiadoacipaaW.PrintWords Go.Proofs.Ytopmkiadoacipaa.PFnExpandMade Go.Proofs.Ytopmkiadoacipaa.Tab Go.Proofs.Ytopmkiadoacipaa.Xp Go.Proofs.Ytopmkiadoacipaa.Each Go.Proofs.Ytopmkiadoacipaa.Vars Go.Proofs.Ytopmkiadoacipaa.Written

/-- what may stand behind a variable without braces -/
def Next : List S50 → Prop
  | [] => True
  | q :: _ => q.f1 = true ∨ (0 < q.f0.size ∧ aln (bt q.f0 0) = false)

/-- parts as they must be -/
def Ok : List S50 → Prop
  | [] => True
  | p :: l => (if p.f1 = true then Vr p.f0 ∧ (p.f2 = false → Next l) else ∀ j : Int, 0 ≤ j → j < p.f0.size → bt p.f0 j ≠ 36) ∧ Ok l

/-- parts expanded -/
def expd (f : ByteArray → ByteArray) : List S50 → ByteArray
  | [] => ByteArray.empty
  | p :: l => (if p.f1 = true then f p.f0 else p.f0) ++ expd f l

theorem part_tt (t : ByteArray) : Written.part ⟨t, true, true⟩ = ((⟨#[36, 123]⟩ : ByteArray) ++ t) ++ (⟨#[125]⟩ : ByteArray) := rfl
theorem part_tf (t : ByteArray) : Written.part ⟨t, true, false⟩ = (⟨#[36]⟩ : ByteArray) ++ t := rfl
theorem part_f (t : ByteArray) (b : Bool) : Written.part ⟨t, false, b⟩ = t := rfl
theorem parts_cons (p : S50) (l : List S50) : parts (p :: l) = Written.part p ++ parts l := rfl

theorem next_parts {l : List S50} (h : Next l) (ho : Ok l) : 0 < (parts l).size → aln (bt (parts l) 0) = false := by
  intro h0
  cases l with
  | nil => simp [parts] at h0
  | cons q l =>
    obtain ⟨t, f1, f2⟩ := q
    cases f1 with
    | true =>
      cases f2 with
      | true =>
        have e : parts (⟨t, true, true⟩ :: l) = (⟨#[36, 123]⟩ : ByteArray) ++ (t ++ ((⟨#[125]⟩ : ByteArray) ++ parts l)) := by rw [parts_cons, part_tt]; simp only [ByteArray.append_assoc]
        rw [e, bt_left _ _ _ (by decide)]; decide
      | false =>
        have e : parts (⟨t, true, false⟩ :: l) = (⟨#[36]⟩ : ByteArray) ++ (t ++ parts l) := by
          rw [parts_cons, part_tf, ByteArray.append_assoc]
        rw [e, bt_left _ _ _ (by decide)]; decide
    | false =>
      have e : parts (⟨t, false, f2⟩ :: l) = t ++ parts l := by
        rw [parts_cons, part_f]
      rcases h with h | ⟨h1, h2⟩
      · cases h
      · rw [e, bt_left _ _ _ (by simpa using h1)]; exact h2

theorem ex_parts (f : ByteArray → ByteArray) (l : List S50) (ho : Ok l) (hs : (parts l).size ≤ 140737488355328) : Ex f (parts l) 0 (expd f l) := by
  induction l with
  | nil => exact ex_nil f
  | cons q l ih =>
    obtain ⟨hq, hl⟩ := ho
    have hsz : (parts (q :: l)).size = (Written.part q).size + (parts l).size := by rw [parts_cons, ByteArray.size_append]
    have ih' := ih hl (by omega)
    obtain ⟨t, f1, f2⟩ := q
    cases f1 with
    | false =>
      have e : parts (⟨t, false, f2⟩ :: l) = t ++ parts l := by
        rw [parts_cons, part_f]
      have e2 : expd f (⟨t, false, f2⟩ :: l) = t ++ expd f l := by
        simp only [expd]
        rw [if_neg (by simp)]
      rw [if_neg (by simp)] at hq
      rw [e, e2]
      exact ex_plain f t _ _ (fun j hj => hq j (by omega) (by show (j : Int) < (t.size : Int); omega)) ih'
    | true =>
      have e2 : expd f (⟨t, true, f2⟩ :: l) = f t ++ expd f l := by simp only [expd, if_true]
      rw [if_pos rfl] at hq
      obtain ⟨hv, hn⟩ := hq
      rw [e2]
      cases f2 with
      | true =>
        have e : parts (⟨t, true, true⟩ :: l) = ds ++ (((lb ++ t) ++ rb) ++ parts l) := by
          have e1 : (⟨#[36, 123]⟩ : ByteArray) = ds ++ lb := rfl
          rw [parts_cons, part_tt, e1]
          simp only [ByteArray.append_assoc]
        rw [e] at hs ⊢
        simp only [ByteArray.size_append] at hs
        exact ex_brace f t _ _ (by omega) hv.1 (no_brace hv.2.1) ih'
      | false =>
        have e : parts (⟨t, true, false⟩ :: l) = ds ++ (t ++ parts l) := by
          rw [parts_cons, part_tf, ByteArray.append_assoc]
        rw [e] at hs ⊢
        simp only [ByteArray.size_append] at hs
        exact ex_var f t _ _ (by omega) hv.1 hv.2.1 hv.2.2 (next_parts (hn rfl) hl) ih'

theorem rd_at50 (l : List S50) (i : Nat) (h : i < l.length) : rd_T50 l (i : Int) = l[i] := by
  simp [rd_T50, List.getD_eq_getElem?_getD, h]

theorem toList_nil {s : ByteArray} : s.toList = ([] : List UInt8) ↔ s.size = 0 := by
  rw [ByteArray.toList_eq]
  constructor
  · intro h; have := congrArg List.length h; simpa using this
  · intro h; exact List.eq_nil_of_length_eq_zero (by simpa using h)

theorem parts_tell (l : List S50) (M : Nat) (hl : l.length ≤ 281474976710656) (hM : ∀ p ∈ l, p.f0.size < M) (hM2 : M ≤ 281474976710656) (d : Nat) : ∀ (k i : Nat), i ≤ l.length → l.length - i = d → d + M < k →
    ∃ b, spec_ScParts.l0 k l l (l.length : Int) (i : Int) = some b ∧ (b = true → Ok (l.drop i)) := by
  induction d with
  | zero =>
    intro k i h1 hd hk
    obtain ⟨k, rfl⟩ : ∃ m, k = m + 1 := ⟨k - 1, by omega⟩
    exact ⟨true, by simp only [spec_ScParts.l0]; rw [if_neg (by omega)], fun _ => by rw [List.drop_eq_nil_of_le (by omega)]; trivial⟩
  | succ d ih =>
    intro k i h1 hd hk
    obtain ⟨k, rfl⟩ : ∃ m, k = m + 1 := ⟨k - 1, by omega⟩
    have hi : i < l.length := by omega
    obtain ⟨b, hb, ht⟩ := ih k (i + 1) (by omega) (by omega) (by omega)
    have hw : wrap64 ((i : Int) + 1) = ((i + 1 : Nat) : Int) := by rw [wrap_next (n := l.length) (by omega) (by omega) (by omega)]; omega
    have hp := hM _ (List.getElem_mem hi)
    simp only [spec_ScParts.l0]
    rw [if_pos (by omega), if_pos (by omega), if_pos (by omega), rd_at50 l i hi, hw, hb]
    rw [List.drop_eq_getElem_cons hi]
    obtain ⟨p, hpe⟩ : ∃ p, p = l[i] := ⟨_, rfl⟩
    rw [← hpe] at hp ⊢
    by_cases f1 : p.f1 = true
    · rw [if_pos f1]
      obtain ⟨v, hv, hvt⟩ := variable_tells p.f0 (by omega) p.f0.size k 0 (by omega) (by omega) (by omega) (by omega)
      rw [show spec_ScVariable.f k p.f0 = some v from hv]
      simp only [Option.bind_some]
      cases v with
      | false => rw [if_neg (by simp)]; exact ⟨false, rfl, fun h => by cases h⟩
      | true =>
        have hvr : Vr p.f0 := ⟨(hvt rfl).1, (hvt rfl).2.1, (hvt rfl).2.2 rfl⟩
        rw [if_pos rfl]
        by_cases f2 : p.f2 = true
        · rw [if_pos f2]
          exact ⟨b, rfl, fun h => ⟨by rw [if_pos f1]; exact ⟨hvr, fun e => by rw [f2] at e; cases e⟩, ht h⟩⟩
        · rw [if_neg f2]
          by_cases hi2 : i + 1 < l.length
          · rw [if_pos (by omega), if_pos (by omega), rd_at50 l (i + 1) hi2]
            have hd2 : l.drop (i + 1) = l[i + 1] :: l.drop (i + 1 + 1) := List.drop_eq_getElem_cons hi2
            by_cases g1 : (l[i + 1]).f1 = true
            · rw [if_pos g1]
              exact ⟨b, rfl, fun h => ⟨by rw [if_pos f1]; exact ⟨hvr, fun _ => by rw [hd2]; exact .inl g1⟩, ht h⟩⟩
            · rw [if_neg g1]
              by_cases g0 : (l[i + 1]).f0.toList = ([] : List UInt8)
              · rw [if_pos g0]; exact ⟨false, rfl, fun h => by cases h⟩
              · rw [if_neg g0]
                have g0' : 0 < (l[i + 1]).f0.size := by
                  rcases Nat.eq_zero_or_pos (l[i + 1]).f0.size with h | h
                  · exact absurd (toList_nil.2 h) g0
                  · exact h
                rw [if_pos (by omega), alnum_is]
                simp only [Option.bind_some]
                by_cases ga : aln (bt (l[i + 1]).f0 0) = true
                · rw [if_pos ga]; exact ⟨false, rfl, fun h => by cases h⟩
                · rw [if_neg ga]
                  exact ⟨b, rfl, fun h => ⟨by rw [if_pos f1]; exact ⟨hvr, fun _ => by rw [hd2]; exact .inr ⟨g0', by simpa using ga⟩⟩, ht h⟩⟩
          · rw [if_neg (by omega)]
            exact ⟨b, rfl, fun h => ⟨by rw [if_pos f1]; exact ⟨hvr, fun _ => by rw [List.drop_eq_nil_of_le (by omega)]; trivial⟩, ht h⟩⟩
    · rw [if_neg f1]
      obtain ⟨v, hv, hvt⟩ := has_tells p.f0 36 (by omega) p.f0.size k 0 (by omega) (by omega) (by omega) (by omega)
      rw [show spec_ScHas.f k p.f0 36 = some v from hv]
      simp only [Option.bind_some]
      cases v with
      | true => rw [if_pos rfl]; exact ⟨false, rfl, fun h => by cases h⟩
      | false =>
        rw [if_neg (by simp)]
        exact ⟨b, rfl, fun h => ⟨by rw [if_neg f1]; exact hvt rfl, ht h⟩⟩

theorem parts_some (l : List S50) (M : Nat) (hl : l.length ≤ 281474976710656) (hM : ∀ p ∈ l, p.f0.size < M) (hM2 : M ≤ 281474976710656) : ∃ b, spec_ScParts.f (l.length + M + 1) l = some b ∧ (b = true → Ok l) := by
  obtain ⟨b, h1, h2⟩ := parts_tell l M hl hM hM2 l.length (l.length + M + 1) 0 (by omega) (by omega) (by omega)
  exact ⟨b, h1, by simpa using h2⟩

end Go.Proofs.Ytopmkiadoacipaa.Made

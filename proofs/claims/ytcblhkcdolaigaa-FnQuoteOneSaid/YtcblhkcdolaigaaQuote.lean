/- The walk of the Go function laws.FnQuoteOne: for every text the call returns true. No condition but the length that every argument has. -/
import Derived.Test.YtcblhkcdolaigaaQuoteA
import Derived.Test.YtcblhkcdolaigaaWGuard
namespace Go.Proofs.Ytcblhkcdolaigaa.Quote
open Go.RowKit Go.Proofs.YtcblhkcdolaigaaW.PrintWords Go.Proofs.Ytcblhkcdolaigaa.PFnQuoteOne

theorem info9 : (Try.prog.info? 9).map (fun i => (i.zero, i.size, i.bytes)) = some (some (.string ⟨#[]⟩), 1, 16) := by kernel_rfl

theorem alnum_is (c : Int) : ∃ b, spec_ScAlnum.f c = some b ∧ (b = true → Aln c) := by
  unfold spec_ScAlnum.f
  have key : ∀ (P : Prop) (b : Bool), (b = true → P) → ∃ b', some b = some b' ∧ (b' = true → P) := fun P b h => ⟨b, rfl, h⟩
  repeat' split
  all_goals (refine key _ _ ?_; intro h; simp only [beq_iff_eq] at h; unfold Aln; omega)

theorem wrap_next {i : Int} {n : Nat} (h0 : 0 ≤ i) (h : i < (n : Int)) (hn : n ≤ 562949953421312) : wrap64 (i + 1) = i + 1 := by
  unfold wrap64
  omega

theorem variable_tells (s : ByteArray) (hn : s.size ≤ 281474976710656) (d : Nat) : ∀ (k i : Nat), i ≤ s.size → s.size - i = d → d < k →
    ∃ b, spec_ScVariable.l0 k s (i : Int) = some b ∧ (b = true → 0 < s.size ∧ ∀ j : Nat, i ≤ j → j < s.size → Aln (bt s (j : Int))) := by
  induction d with
  | zero =>
    intro k i h1 hd hk
    obtain ⟨k, rfl⟩ : ∃ m, k = m + 1 := ⟨k - 1, by omega⟩
    refine ⟨decide ((s.size : Int) > 0), by simp only [spec_ScVariable.l0]; rw [if_neg (by omega)], fun h => ?_⟩
    have : (s.size : Int) > 0 := by simpa using h
    exact ⟨by omega, fun j _ _ => by omega⟩
  | succ d ih =>
    intro k i h1 hd hk
    obtain ⟨k, rfl⟩ : ∃ m, k = m + 1 := ⟨k - 1, by omega⟩
    obtain ⟨b, hb, ht⟩ := ih k (i + 1) (by omega) (by omega) (by omega)
    obtain ⟨x, hx, hxa⟩ := alnum_is (bt s (i : Int))
    simp only [spec_ScVariable.l0]
    rw [if_pos (by omega), if_pos (by omega), hx]
    simp only [Option.bind_some]
    rw [wrap_next (n := s.size) (by omega) (by omega) (by omega), show (i : Int) + 1 = ((i + 1 : Nat) : Int) from by omega, hb]
    cases x with
    | false => rw [if_neg (by simp)]; exact ⟨false, rfl, fun h => by cases h⟩
    | true =>
      rw [if_pos rfl]
      have go : b = true → 0 < s.size ∧ ∀ j : Nat, i ≤ j → j < s.size → Aln (bt s (j : Int)) := fun h => by
        obtain ⟨g1, g2⟩ := ht h
        refine ⟨g1, fun j hj hjs => ?_⟩
        by_cases e : j = i
        · subst e; exact hxa rfl
        · exact g2 j (by omega) hjs
      by_cases e0 : (i : Int) = 0
      · rw [if_pos e0]
        by_cases e1 : bt s (i : Int) ≥ 48
        · rw [if_pos e1]
          by_cases e2 : bt s (i : Int) ≤ 57
          · rw [if_pos e2]; exact ⟨false, rfl, fun h => by cases h⟩
          · rw [if_neg e2]; exact ⟨b, rfl, go⟩
        · rw [if_neg e1]; exact ⟨b, rfl, go⟩
      · rw [if_neg e0]; exact ⟨b, rfl, go⟩

set_option maxHeartbeats 4000000 in
set_option maxRecDepth 100000 in
theorem quote_door (g c : Nat) (s : ByteArray) (w : World) (hg : g < w.heap.size) (hcell : w.cell? ⟨g, 0, none⟩ = some (.string s)) (h0 : 0 < s.size) (hs : s.size ≤ 140737488355328)
    (ha : ∀ j : Nat, j < s.size → Aln (bt s (j : Int))) :
    Calls Try.prog 37 #[.slice (some ⟨g, 0, none⟩) 1 c] w fun e w' => e = .returned (.string s) ∧ Below w.heap.size w w' := by
  have HA := Aside0.mk ha
  have HC := Aside0.mk hcell
  clear ha hcell
  go_enter Try.func37, Try.ntmps37
  go_wp2_with fail
  (with_reducible refine (quote_args g c s _ hg HC.out h0 hs HA.out).mono ?_)
  rintro e w1 ⟨rfl, b1⟩
  have HB := Aside0.mk b1
  clear b1
  go_wp2_with fail
  go_ret
  exact ⟨rfl, HB.out⟩

set_option maxHeartbeats 4000000 in
set_option maxRecDepth 100000 in
theorem quote_impl (g c : Nat) (s : ByteArray) (w : World) (hr : ReadsOf Value.string ByteArray.empty w (some ⟨g, 0, none⟩) 1 [s]) (h0 : 0 < s.size) (hs : s.size ≤ 140737488355328)
    (ha : ∀ j : Nat, j < s.size → Aln (bt s (j : Int))) :
    Calls Try.prog 27 #[.slice (some ⟨g, 0, none⟩) 1 c] w fun e w' => e = .returned (.string s) ∧ Below w.heap.size w w' := by
  have HA := Aside0.mk ha
  have HR := Aside0.mk hr
  clear ha hr
  go_enter Try.func27, Try.ntmps27
  go_wp2_with (at_builtin; refine print_append_row_of (w0 := w) Value.string ByteArray.empty w.heap.size rfl (.tmp 3) (.tmp 4) 37 9 (.string ⟨#[]⟩) 16 rfl Try.underlying37 info9 rfl (by decide) (fun _ => rfl) _ [] [s] (some ⟨g, 0, none⟩) 1 c rfl rfl (own_lit_of w w.heap.size 9 [] (Nat.le_refl _) (by simp)) (HR.out.below (below_alloc (Below.refl _ _) _)) (below_alloc (Below.refl _ _) _) (below_alloc (Below.refl w.heap.size w) (.cells #[] 9)).size (by simp) ?_)
  intro v1 w1 HO HB1 _ _
  obtain ⟨g1, c1, rfl, _, hg1⟩ := HO.form (by simp)
  obtain ⟨A, c2, he, _, hr1⟩ := own_reads_of_le (d := ByteArray.empty) HO
  injection he with he1 he2
  subst he1
  have hcell : w1.cell? ⟨g1, 0, none⟩ = some (.string s) := by
    obtain ⟨ad, had, hc1⟩ := hr1.2.2 (by simp)
    injection had with had
    subst had
    simpa [Addr.add] using hc1 0 (by simp)
  have HC := Aside0.mk hcell
  have HBA := Aside0.mk HB1
  have hsz := HB1.size
  clear hcell HB1 hr1 HO
  go_wp2_with fail
  (with_reducible refine (quote_door g1 _ s _ hg1 HC.out h0 hs HA.out).mono ?_)
  rintro e w2 ⟨rfl, b2⟩
  have HB := Aside0.mk (below_then HBA.out hsz b2)
  clear b2
  go_wp2_with fail
  go_ret
  exact ⟨rfl, HB.out⟩

set_option maxHeartbeats 4000000 in
set_option maxRecDepth 100000 in
theorem walk (s : ByteArray) (w : World) : Calls Try.prog 11 #[.string s] w fun e w' => e = .returned (.bool true) ∧ Below w.heap.size w w' := by
  by_cases hl : s.size ≤ 2147483647
  · obtain ⟨b, hb, ht⟩ := variable_tells s (by omega) s.size (s.size + 1) 0 (by omega) (by omega) (by omega)
    have HT := Aside0.mk ht
    have HF : spec_ScVariable.f (s.size + 1) s = some b := hb
    have hd : decide ((s.size : Int) > 2147483647) = false := decide_eq_false (by omega)
    clear ht hb
    cases b with
    | false =>
      go_enter Try.func11, Try.ntmps11
      go_wp2_with fail
      (with_reducible refine (spec_ScVariable.calls _ s _ _ HF).mono ?_)
      rintro e w1 ⟨rfl, n1, rfl⟩
      go_wp2_with fail
      go_ret
      exact ⟨rfl, pw_below_drewN (Below.refl _ _) _⟩
    | true =>
      obtain ⟨h0, ha⟩ := HT.out rfl
      have HA := Aside0.mk ha
      clear ha
      go_enter Try.func11, Try.ntmps11
      go_wp2_with fail
      (with_reducible refine (spec_ScVariable.calls _ s _ _ HF).mono ?_)
      rintro e w1 ⟨rfl, n1, rfl⟩
      go_wp2_with fail
      have hr : ReadsOf Value.string ByteArray.empty ((w.drewN n1).alloc (.cells #[.string s] 9)) (some ⟨w.heap.size, 0, none⟩) 1 [s] := by
        obtain ⟨A, c2, he, _, hr1⟩ := own_reads_of_le (d := ByteArray.empty) (own_lit_of (enc := Value.string) (w.drewN n1) w.heap.size 9 [s] (Nat.le_refl _) (by simp))
        injection he with he1 he2
        subst he1
        exact hr1
      have HB1 := Aside0.mk (below_alloc (pw_below_drewN (Below.refl w.heap.size w) n1) (.cells #[.string s] 9))
      have hsz := HB1.out.size
      (with_reducible refine (quote_impl _ _ s _ hr h0 (by omega) (fun j hj => HA.out j (Nat.zero_le _) hj)).mono ?_)
      rintro e w2 ⟨rfl, b2⟩
      have HB := Aside0.mk (below_then HB1.out hsz b2)
      clear b2 hr
      go_wp2_with fail
      go_ret
      exact ⟨rfl, HB.out⟩
  · have hd : decide ((s.size : Int) > 2147483647) = true := decide_eq_true (by omega)
    go_enter Try.func11, Try.ntmps11
    go_wp2_with fail
    go_ret
    exact ⟨rfl, Below.refl _ _⟩

end Go.Proofs.Ytcblhkcdolaigaa.Quote

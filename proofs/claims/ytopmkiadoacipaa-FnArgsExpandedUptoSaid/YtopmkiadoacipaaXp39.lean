/- The walk of osexpand.Expand with the closure of State.ExpandEnv (the text of YtopmkiadoacipaaXp, turned to that closure), of the doors to it, and of impl.ExpandEnv. -/
import Derived.Test.YtopmkiadoacipaaImpl
import Derived.BigQuiet
import Derived.Deep.CutRange
import Derived.WalkSpells
import Derived.Lib.LazyBuf
namespace Go.Proofs.Ytopmkiadoacipaa.Xp
open Go.RowKit Go.Proofs.YtopmkiadoacipaaW.PrintWords Go.Proofs.Ytopmkiadoacipaa.PFnExpandMade Go.Proofs.Ytopmkiadoacipaa.Tab Go.Proofs.Ytopmkiadoacipaa.Buf

set_option maxHeartbeats 8000000 in
set_option maxRecDepth 100000 in
theorem expand39_is (g3 g5 : Nat) (f : ByteArray → ByteArray) (s tot : ByteArray) (w : World)
    (hcl : ∀ (name : ByteArray) (W : World), name.size ≤ 281474976710656 → Below w.heap.size w W → Calls Try.prog 39 #[.string name, .pointer (some ⟨g3, 0, none⟩), .pointer (some ⟨g5, 0, none⟩)] W fun e w' => e = .returned (.string (f name)) ∧ Below W.heap.size W w')
    (hs : s.size ≤ 35184372088832) (ht : tot.size ≤ 70368744177664) (hx : Ex f s 0 tot) :
    Calls Try.prog 25 #[.string s, .func (.func 39) #[] #[.pointer (some ⟨g3, 0, none⟩), .pointer (some ⟨g5, 0, none⟩)]] w fun e w' => e = .returned (.string tot) ∧ Below w.heap.size w w' := by
  have HCL := Aside0.mk hcl
  have HX := Aside0.mk hx
  have hno := nil_no
  have hyes := nil_yes
  clear hcl hx
  go_enter Try.func25, Try.ntmps25
  go_wp2_with fail
  go_loopw [5, 6, 7] (fun v5 v6 v7 wr => ∃ (j i : Nat) (B r : ByteArray), v6 = .int .i64 i ∧ v7 = .int .i64 j ∧ i ≤ j ∧ j ≤ s.size ∧ Ex f s j r ∧ (B ++ s.extract i j) ++ r = tot ∧ Below w.heap.size w wr ∧
    ((v5 = .slice none 0 0 ∧ i = 0 ∧ B = ByteArray.empty) ∨ ∃ g1 c1 n1, v5 = .slice (some ⟨g1, 0, none⟩) n1 c1 ∧ n1 = B.size ∧ Own wr w.heap.size g1 c1 B)) (fun _ _ v7 _ => s.size - (intOf v7).toNat)
  case atStart => exact ⟨0, 0, ByteArray.empty, tot, rfl, rfl, by omega, by omega, HX.out, by rw [ext_nil]; simp, Below.refl _ _, .inl ⟨rfl, rfl, rfl⟩⟩
  case round =>
    obtain ⟨j, i, B, r, rfl, rfl, hij, hjs, hex, htot, hB, hbuf⟩ := hrel
    have HB := Aside0.mk hB
    have hsz := hB.size
    have HTOT := Aside0.mk htot
    clear hB htot
    by_cases hj : j < s.size
    · have d1 : decide ((j : Int) < (s.size : Int)) = true := decide_eq_true (by omega)
      obtain ⟨c, hc⟩ : ∃ c : Int, c = bt s (j : Int) := ⟨_, rfl⟩
      have p3 : 0 ≤ (j : Int) := by omega
      have hx3 : ∀ h : j < s.size, ((s[j]'h).toNat : Int) = c := fun h => by rw [hc]; simpa using bt_at s (j : Int) (by simpa using h)
      by_cases hdo : c = 36 ∧ j + 1 < s.size
      · obtain ⟨h36, hj1⟩ := hdo
        have e36 : (c == 36) = true := by rw [h36]; rfl
        have d2 : decide ((j : Int) + 1 < (s.size : Int)) = true := decide_eq_true (by omega)
        have HEX := Aside0.mk hex
        have HBUF := Aside0.mk hbuf
        have HC := Aside0.mk hc
        have hbs : B.size + (j - i) + r.size = tot.size := by
          have := congrArg ByteArray.size HTOT.out
          rw [ByteArray.size_append, ByteArray.size_append, ByteArray.size_extract] at this
          omega
        clear hex hbuf hc
        have hj2 : (j : Int) + 1 ≤ (s.size : Int) := by omega
        obtain ⟨i5, hi5, hz5⟩ := Option.map_eq_some_iff.1 Buf.info5
        simp only [Prod.mk.injEq] at hz5
        obtain ⟨hz0, hz1, hz2⟩ := hz5
        cases HEX.out with
        | done h => omega
        | lit h1 h2 h3 => exact absurd ⟨HC.out.symm.trans h36, hj1⟩ h2
        | var q1 q2 q3 q4 q5 q6 q7 =>
          rename_i k m name r1
          have HN := Aside0.mk q3
          have HX1 := Aside0.mk q7
          have hne1 : ¬ name.toList = [] := fun e => q4 (by
            have h := congrArg List.length e
            rw [ByteArray.toList_eq] at h
            simpa using h)
          have hne : (name.toList == ([] : List UInt8)) = false := by rw [beq_eq_false_iff_ne]; exact hne1
          have hrs : (f name ++ r1).size = (f name).size + r1.size := ByteArray.size_append
          clear q1 q2 q3 q7 HEX
          have hfin : B ++ s.extract i j ++ f name ++ r1 = tot := by rw [← HTOT.out]; simp only [ByteArray.append_assoc]
          have HFIN := Aside0.mk hfin
          clear hfin
          rcases HBUF.out with ⟨rfl, _hi0, hBe⟩ | ⟨g1, c1, n1, rfl, hn1, hownE⟩
          · have HN1 : Aside0 (0 = B.size) := Aside0.mk (by rw [hBe]; rfl)
            have HBE := Aside0.mk hBe
            clear HBUF hBe _hi0
            go_wp2_with (first
              | (at_make; refine wpList_make_own _ rfl _ _ 52 rfl w.heap.size 5 i5 (.int .u8 0) 1 Try.underlying52 hi5 hz0 hz1 .i64 .i64 (2 * (s.size : Int)) (2 * s.size) rfl rfl (by omega) (by rw [hz2]; omega) (by unfold maxLen; omega) hsz ?_; intro w2 hown2 hg2; have hownE : Own w2 w.heap.size wr.heap.size (2 * s.size) B := (by rw [HBE.out]; exact hown2); have hB2 := HB.out.grown hg2 hsz (fun _ h => by cases h); have hsz2 := hB2.size)
              | (at_builtin; refine append_str (w0 := w) w.heap.size rfl (.tmp 33) (.tmp 37) rfl _ _ _ B _ rfl HN1.out rfl hownE hB2 hsz2 (by rw [ByteArray.size_extract]; omega) ?_; intro g2 c2 w3 hown3 hB3)
              | (go_at_call 33; (with_reducible refine (osexpand_getShellName.calls _ _ _ _ _ HN.out).mono ?_); rintro e w4 ⟨rfl, nd, rfl⟩)
              | (go_at_call 39; refine (HCL.out name (w3.drewN nd) q5 (pw_below_drewN hB3 nd)).mono ?_; rintro e w5 ⟨rfl, hB5⟩)
              | (at_builtin; refine append_str (w0 := w) w.heap.size rfl (.tmp 61) (.tmp 64) rfl g2 c2 _ (B ++ s.extract i j) (f name) rfl (by rw [ByteArray.size_append, ByteArray.size_extract]; omega) rfl (Own.below (w := w3.drewN nd) hown3 hB5) (below_then (pw_below_drewN hB3 nd) hB3.size hB5) (Nat.le_trans hB3.size hB5.size) (by rw [ByteArray.size_append, ByteArray.size_extract]; omega) ?_; intro g6 c6 w6 hown6 hB6))
            go_roundw
            case rel =>
              exact ⟨j + 1 + m, j + 1 + m, B ++ s.extract i j ++ f name, r1, by go_num, by go_num, by omega, by omega, HX1.out, by rw [ext_nil]; simpa using HFIN.out, hB6, .inr ⟨g6, c6, _, rfl, by simp only [ByteArray.size_append, ByteArray.size_extract]; omega, hown6⟩⟩
            case measure => simp [intOf]; omega
          · have hB2 := HB.out
            have hsz2 := hsz
            have HN1 := Aside0.mk hn1
            clear HBUF hn1
            go_wp2_with (first
              | (at_builtin; refine append_str (w0 := w) w.heap.size rfl (.tmp 33) (.tmp 37) rfl _ _ _ B _ rfl HN1.out rfl hownE hB2 hsz2 (by rw [ByteArray.size_extract]; omega) ?_; intro g2 c2 w3 hown3 hB3)
              | (go_at_call 33; (with_reducible refine (osexpand_getShellName.calls _ _ _ _ _ HN.out).mono ?_); rintro e w4 ⟨rfl, nd, rfl⟩)
              | (go_at_call 39; refine (HCL.out name (w3.drewN nd) q5 (pw_below_drewN hB3 nd)).mono ?_; rintro e w5 ⟨rfl, hB5⟩)
              | (at_builtin; refine append_str (w0 := w) w.heap.size rfl (.tmp 61) (.tmp 64) rfl g2 c2 _ (B ++ s.extract i j) (f name) rfl (by rw [ByteArray.size_append, ByteArray.size_extract]; omega) rfl (Own.below (w := w3.drewN nd) hown3 hB5) (below_then (pw_below_drewN hB3 nd) hB3.size hB5) (Nat.le_trans hB3.size hB5.size) (by rw [ByteArray.size_append, ByteArray.size_extract]; omega) ?_; intro g6 c6 w6 hown6 hB6))
            go_roundw
            case rel =>
              exact ⟨j + 1 + m, j + 1 + m, B ++ s.extract i j ++ f name, r1, by go_num, by go_num, by omega, by omega, HX1.out, by rw [ext_nil]; simpa using HFIN.out, hB6, .inr ⟨g6, c6, _, rfl, by simp only [ByteArray.size_append, ByteArray.size_extract]; omega, hown6⟩⟩
            case measure => simp [intOf]; omega
        | eat q1 q2 q3 q4 q5 q6 =>
          rename_i k m
          obtain ⟨name, hname⟩ : ∃ name : ByteArray, name = ByteArray.empty := ⟨_, rfl⟩
          rw [← hname] at q3
          have hne : (name.toList == ([] : List UInt8)) = true := by rw [hname, ByteArray.toList_eq]; rfl
          clear hname
          have HN := Aside0.mk q3
          have HX1 := Aside0.mk q6
          have hm0 : decide ((m : Int) > 0) = true := decide_eq_true (by omega)
          clear q1 q2 q3 q6 HEX
          rcases HBUF.out with ⟨rfl, _hi0, hBe⟩ | ⟨g1, c1, n1, rfl, hn1, hownE⟩
          · have HN1 : Aside0 (0 = B.size) := Aside0.mk (by rw [hBe]; rfl)
            have HBE := Aside0.mk hBe
            clear HBUF hBe _hi0
            go_wp2_with (first
              | (at_make; refine wpList_make_own _ rfl _ _ 52 rfl w.heap.size 5 i5 (.int .u8 0) 1 Try.underlying52 hi5 hz0 hz1 .i64 .i64 (2 * (s.size : Int)) (2 * s.size) rfl rfl (by omega) (by rw [hz2]; omega) (by unfold maxLen; omega) hsz ?_; intro w2 hown2 hg2; have hownE : Own w2 w.heap.size wr.heap.size (2 * s.size) B := (by rw [HBE.out]; exact hown2); have hB2 := HB.out.grown hg2 hsz (fun _ h => by cases h); have hsz2 := hB2.size)
              | (at_builtin; refine append_str (w0 := w) w.heap.size rfl (.tmp 33) (.tmp 37) rfl _ _ _ B _ rfl HN1.out rfl hownE hB2 hsz2 (by rw [ByteArray.size_extract]; omega) ?_; intro g2 c2 w3 hown3 hB3)
              | (go_at_call 33; (with_reducible refine (osexpand_getShellName.calls _ _ _ _ _ HN.out).mono ?_); rintro e w4 ⟨rfl, nd, rfl⟩))
            go_roundw
            case rel =>
              exact ⟨j + 1 + m, j + 1 + m, B ++ s.extract i j, r, by go_num, by go_num, by omega, by omega, HX1.out, by rw [ext_nil]; simpa using HTOT.out, pw_below_drewN hB3 nd, .inr ⟨g2, c2, _, rfl, by simp only [ByteArray.size_append, ByteArray.size_extract]; omega, hown3⟩⟩
            case measure => simp [intOf]; omega
          · have hB2 := HB.out
            have hsz2 := hsz
            have HN1 := Aside0.mk hn1
            clear HBUF hn1
            go_wp2_with (first
              | (at_builtin; refine append_str (w0 := w) w.heap.size rfl (.tmp 33) (.tmp 37) rfl _ _ _ B _ rfl HN1.out rfl hownE hB2 hsz2 (by rw [ByteArray.size_extract]; omega) ?_; intro g2 c2 w3 hown3 hB3)
              | (go_at_call 33; (with_reducible refine (osexpand_getShellName.calls _ _ _ _ _ HN.out).mono ?_); rintro e w4 ⟨rfl, nd, rfl⟩))
            go_roundw
            case rel =>
              exact ⟨j + 1 + m, j + 1 + m, B ++ s.extract i j, r, by go_num, by go_num, by omega, by omega, HX1.out, by rw [ext_nil]; simpa using HTOT.out, pw_below_drewN hB3 nd, .inr ⟨g2, c2, _, rfl, by simp only [ByteArray.size_append, ByteArray.size_extract]; omega, hown3⟩⟩
            case measure => simp [intOf]; omega
        | keep q1 q2 q3 q4 =>
          rename_i k r1
          obtain ⟨name, hname⟩ : ∃ name : ByteArray, name = ByteArray.empty := ⟨_, rfl⟩
          rw [← hname] at q3
          have hne : (name.toList == ([] : List UInt8)) = true := by rw [hname, ByteArray.toList_eq]; rfl
          clear hname
          have HN := Aside0.mk q3
          have HX1 := Aside0.mk q4
          have h1z : (⟨#[36]⟩ : ByteArray).size = 1 := rfl
          have hrs : ((⟨#[36]⟩ : ByteArray) ++ r1).size = 1 + r1.size := ByteArray.size_append
          clear q1 q2 q3 q4 HEX
          have hfin : B ++ s.extract i j ++ (⟨#[36]⟩ : ByteArray) ++ r1 = tot := by rw [← HTOT.out]; simp only [ByteArray.append_assoc]
          have HFIN := Aside0.mk hfin
          clear hfin
          rcases HBUF.out with ⟨rfl, _hi0, hBe⟩ | ⟨g1, c1, n1, rfl, hn1, hownE⟩
          · have HN1 : Aside0 (0 = B.size) := Aside0.mk (by rw [hBe]; rfl)
            have HBE := Aside0.mk hBe
            clear HBUF hBe _hi0
            go_wp2_with (first
              | (at_make; refine wpList_make_own _ rfl _ _ 52 rfl w.heap.size 5 i5 (.int .u8 0) 1 Try.underlying52 hi5 hz0 hz1 .i64 .i64 (2 * (s.size : Int)) (2 * s.size) rfl rfl (by omega) (by rw [hz2]; omega) (by unfold maxLen; omega) hsz ?_; intro w2 hown2 hg2; have hownE : Own w2 w.heap.size wr.heap.size (2 * s.size) B := (by rw [HBE.out]; exact hown2); have hB2 := HB.out.grown hg2 hsz (fun _ h => by cases h); have hsz2 := hB2.size)
              | (at_builtin; refine append_str (w0 := w) w.heap.size rfl (.tmp 33) (.tmp 37) rfl _ _ _ B _ rfl HN1.out rfl hownE hB2 hsz2 (by rw [ByteArray.size_extract]; omega) ?_; intro g2 c2 w3 hown3 hB3)
              | (go_at_call 33; (with_reducible refine (osexpand_getShellName.calls _ _ _ _ _ HN.out).mono ?_); rintro e w4 ⟨rfl, nd, rfl⟩)
              | (at_builtin; refine append_byte (w0 := w) (W := w3.drewN nd) w.heap.size rfl (.tmp 55) (.tmp 59) rfl g2 c2 _ (B ++ s.extract i j) 36 36 rfl rfl (by rw [ByteArray.size_append, ByteArray.size_extract]; omega) rfl hown3 (pw_below_drewN hB3 nd) hB3.size (by rw [ByteArray.size_append, ByteArray.size_extract]; omega) ?_; intro g6 c6 w6 hown6 hB6))
            go_roundw
            case rel =>
              exact ⟨j + 1, j + 1, B ++ s.extract i j ++ (⟨#[36]⟩ : ByteArray), r1, by go_num, by go_num, by omega, by omega, HX1.out, by rw [ext_nil]; simpa using HFIN.out, hB6, .inr ⟨g6, c6, _, rfl, by simp only [ByteArray.size_append, ByteArray.size_extract]; omega, hown6⟩⟩
            case measure => simp [intOf]; omega
          · have hB2 := HB.out
            have hsz2 := hsz
            have HN1 := Aside0.mk hn1
            clear HBUF hn1
            go_wp2_with (first
              | (at_builtin; refine append_str (w0 := w) w.heap.size rfl (.tmp 33) (.tmp 37) rfl _ _ _ B _ rfl HN1.out rfl hownE hB2 hsz2 (by rw [ByteArray.size_extract]; omega) ?_; intro g2 c2 w3 hown3 hB3)
              | (go_at_call 33; (with_reducible refine (osexpand_getShellName.calls _ _ _ _ _ HN.out).mono ?_); rintro e w4 ⟨rfl, nd, rfl⟩)
              | (at_builtin; refine append_byte (w0 := w) (W := w3.drewN nd) w.heap.size rfl (.tmp 55) (.tmp 59) rfl g2 c2 _ (B ++ s.extract i j) 36 36 rfl rfl (by rw [ByteArray.size_append, ByteArray.size_extract]; omega) rfl hown3 (pw_below_drewN hB3 nd) hB3.size (by rw [ByteArray.size_append, ByteArray.size_extract]; omega) ?_; intro g6 c6 w6 hown6 hB6))
            go_roundw
            case rel =>
              exact ⟨j + 1, j + 1, B ++ s.extract i j ++ (⟨#[36]⟩ : ByteArray), r1, by go_num, by go_num, by omega, by omega, HX1.out, by rw [ext_nil]; simpa using HFIN.out, hB6, .inr ⟨g6, c6, _, rfl, by simp only [ByteArray.size_append, ByteArray.size_extract]; omega, hown6⟩⟩
            case measure => simp [intOf]; omega
      · have HEX : Aside0 (∃ r1, Ex f s (j + 1) r1 ∧ r = s.extract j (j + 1) ++ r1) := by
          cases hex with
          | done h => omega
          | lit h1 h2 h3 => exact ⟨_, h3, rfl⟩
          | var h1 h2 => exact absurd ⟨hc.trans h1, h2⟩ hdo
          | eat h1 h2 => exact absurd ⟨hc.trans h1, h2⟩ hdo
          | keep h1 h2 => exact absurd ⟨hc.trans h1, h2⟩ hdo
        have HBUF := Aside0.mk hbuf
        clear hex hc hbuf
        have next : ∀ r1, Ex f s (j + 1) r1 → r = s.extract j (j + 1) ++ r1 → B ++ s.extract i (j + 1) ++ r1 = tot := fun r1 h1 h2 => by
          rw [← HTOT.out, h2, ← ext_step s i j hij]
          simp only [ByteArray.append_assoc]
        by_cases h36 : c = 36
        · have e36 : (c == 36) = true := by rw [h36]; rfl
          have d2 : decide ((j : Int) + 1 < (s.size : Int)) = false := decide_eq_false (by omega)
          have NX := Aside0.mk next
          clear next hdo
          go_wp2_with fail
          go_roundw
          case rel =>
            obtain ⟨r1, h1, h2⟩ := HEX.out
            exact ⟨j + 1, i, B, r1, rfl, by go_num, by omega, by omega, h1, NX.out r1 h1 h2, HB.out, HBUF.out⟩
          case measure => simp [intOf]; omega
        · have e36 : (c == 36) = false := by rw [beq_eq_false_iff_ne]; exact h36
          have NX := Aside0.mk next
          clear next hdo
          go_wp2_with fail
          go_roundw
          case rel =>
            obtain ⟨r1, h1, h2⟩ := HEX.out
            exact ⟨j + 1, i, B, r1, rfl, by go_num, by omega, by omega, h1, NX.out r1 h1 h2, HB.out, HBUF.out⟩
          case measure => simp [intOf]; omega
    · obtain rfl : j = s.size := by omega
      have d1 : decide ((s.size : Int) < (s.size : Int)) = false := decide_eq_false (by omega)
      have hr : r = ByteArray.empty := by
        cases hex with
        | done h => rfl
        | lit h1 => omega
        | var h1 h2 => omega
        | eat h1 h2 => omega
        | keep h1 h2 => omega
      have hfin : B ++ s.extract i s.size = tot := by
        rw [← HTOT.out, hr]; simp
      rcases hbuf with ⟨rfl, rfl, rfl⟩ | ⟨g1, c1, n1, rfl, hn1, hown⟩
      · have hts : s = tot := by rw [← hfin]; simp
        subst hts
        go_wp2_with fail
        go_ret
        exact ⟨rfl, HB.out⟩
      · subst hn1
        have hstr : (convert 52 9 (.slice (some ⟨g1, 0, none⟩) B.size c1)).run Try.prog wr.drew = .ok (.string B) wr.drew := string_of (w := wr.drew) hown rfl
        have HF := Aside0.mk hfin
        have hcat : ¬ 9223372036854775807 < B.size + (s.size - i) := by
          have := congrArg ByteArray.size hfin
          rw [ByteArray.size_append, ByteArray.size_extract] at this
          omega
        clear hown hfin hex HTOT
        have hi : (i : Int) ≤ (s.size : Int) := by omega
        go_wp2_with fail
        go_region
        go_wp2_with fail
        go_ret
        exact ⟨congrArg (fun x => Ending.returned (Value.string x)) HF.out, pw_below_drewN HB.out 1⟩

end Go.Proofs.Ytopmkiadoacipaa.Xp

/- The walk of the law FnConditionsPrefix. -/
import Derived.Test.YtkibblabjgoddaaPreImpl
import Derived.Test.YtkibblabjgoddaaLawUnknown
import Derived.Test.YtkibblabjgoddaaPFnConditionsPrefixx1
import Derived.WalkSpells
import Derived.Deep.QuietTactic
import Derived.BigQuiet
namespace Go.Proofs.Ytkibblabjgoddaa.Tab
open Go.RowKit Go.Proofs.YtkibblabjgoddaaW.PrintWords Go.Maps Go.WideMaps Go.Proofs.Ytkibblabjgoddaa.PFnConditions
open Go.Proofs.Ytkibblabjgoddaa.PFnConditionsPrefix (laws_zzFits3.l0 laws_zzFits3.f laws_zzFits3.calls)

theorem rdOf_at (l : List ByteArray) (i : Nat) (h : i < l.length) : rdOf ByteArray.empty l (i : Int) = l[i] := by
  simp [rdOf, List.getD_eq_getElem?_getD, h]

theorem fits3 (l : List ByteArray) (hl : l.length ≤ 562949953421312) (d : Nat) : ∀ (k i : Nat), i ≤ l.length → l.length - i = d → d < k →
    ∃ b, laws_zzFits3.l0 k l (l.length : Int) (i : Int) = some b ∧ (b = true → ∀ j, i ≤ j → ∀ h : j < l.length, l[j].size ≤ 2147483647) := by
  induction d with
  | zero =>
    intro k i h1 hd hk
    obtain ⟨k, rfl⟩ : ∃ m, k = m + 1 := ⟨k - 1, by omega⟩
    exact ⟨true, by simp only [laws_zzFits3.l0]; rw [if_neg (by omega)], fun _ j _ _ => by omega⟩
  | succ d ih =>
    intro k i h1 hd hk
    obtain ⟨k, rfl⟩ : ∃ m, k = m + 1 := ⟨k - 1, by omega⟩
    obtain ⟨b, hb, ht⟩ := ih k (i + 1) (by omega) (by omega) (by omega)
    simp only [laws_zzFits3.l0]
    rw [if_pos (by omega), if_pos (by omega), if_pos (by omega)]
    by_cases e : ((rdOf ByteArray.empty l (i : Int)).size : Int) > 2147483647
    · exact ⟨false, by rw [if_pos e], fun h => by cases h⟩
    · refine ⟨b, ?_, fun hbt j h1 h2 => ?_⟩
      · rw [if_neg e, wrap_next (n := l.length) (by omega) (by omega) (by omega)]
        exact hb
      · by_cases ej : j = i
        · subst ej
          rw [rdOf_at l j h2] at e
          omega
        · exact ht hbt j (by omega) h2

theorem fits3_some (l : List ByteArray) : ∃ b, laws_zzFits3.f (l.length + 1) l = some b ∧ (b = true → l.length ≤ 2147483647 ∧ ∀ s ∈ l, s.size ≤ 2147483647) := by
  unfold laws_zzFits3.f
  by_cases e : (l.length : Int) > 2147483647
  · exact ⟨false, by rw [if_pos e], fun h => by cases h⟩
  · obtain ⟨b, hb, ht⟩ := fits3 l (by omega) l.length (l.length + 1) 0 (by omega) (by omega) (by omega)
    refine ⟨b, by rw [if_neg e]; exact hb, fun h => ⟨by omega, fun s hs => ?_⟩⟩
    obtain ⟨i, hi, rfl⟩ := List.getElem_of_mem hs
    exact ht h i (Nat.zero_le _) hi

theorem lit_bw (W : World) (b : Bool) : ReadsOf Value.bool false (W.alloc (.cells #[.bool b] 4)) (some ⟨W.heap.size, 0, none⟩) 1 [b] := by
  obtain ⟨A, c2, he, _, hr1⟩ := own_reads_of_le (d := false) (own_lit_of (enc := Value.bool) W W.heap.size 4 [b] (Nat.le_refl _) (by simp))
  injection he with he1 he2
  subst he1
  exact hr1

set_option maxHeartbeats 8000000 in
set_option maxRecDepth 100000 in
theorem walk_pre (t s : ByteArray) (A : Option Addr) (cs : Nat) (ss : List ByteArray) (want : Bool) (w : World) (hr : Kd.C Kd.string w A ss.length ss) (hc : ss.length ≤ cs) :
    Calls Try.prog 5 #[.string t, .string s, .slice A ss.length cs, .bool want] w fun e w' => e = .returned (.bool true) ∧ Below w.heap.size w w' := by
  by_cases ht : t.size ≤ 2147483647
  case neg =>
    have dt : decide ((t.size : Int) > 2147483647) = true := decide_eq_true (by omega)
    go_enter Try.func5, Try.ntmps5
    go_wp2_with fail
    go_ret
    exact ⟨rfl, Below.refl _ _⟩
  by_cases hs : s.size ≤ 2147483647
  case neg =>
    have dt : decide ((t.size : Int) > 2147483647) = false := decide_eq_false (by omega)
    have ds : decide ((s.size : Int) > 2147483647) = true := decide_eq_true (by omega)
    go_enter Try.func5, Try.ntmps5
    go_wp2_with fail
    go_ret
    exact ⟨rfl, Below.refl _ _⟩
  have dt : decide ((t.size : Int) > 2147483647) = false := decide_eq_false (by omega)
  have ds : decide ((s.size : Int) > 2147483647) = false := decide_eq_false (by omega)
  obtain ⟨b, hb, hbt⟩ := fits3_some ss
  obtain ⟨v, hv, hvt⟩ := cond_some t (by omega)
  have hu35 := Try.underlying35
  have HR := Aside0.mk hr
  have HB9 := Aside0.mk hb
  have HT := Aside0.mk hbt
  have HV := Aside0.mk hv
  have HVT := Aside0.mk hvt
  clear hr hb hbt hv hvt
  go_enter Try.func5, Try.ntmps5
  go_wp2_with fail
  (with_reducible refine (laws_zzFits3.calls _ A cs ss b _ HR.out hc HB9.out).mono ?_)
  rintro e wa ⟨rfl, ba⟩
  have HBa := Aside0.mk ba.below
  have HRa := Aside0.mk (Kd.C_below HR.out ba.below)
  clear ba HR
  cases b with
  | false =>
    go_wp2_with fail
    go_ret
    exact ⟨rfl, HBa.out⟩
  | true =>
    obtain ⟨hl, hsz⟩ := HT.out rfl
    have HSZ := Aside0.mk (fun p (hp : p ∈ ss) => Nat.le_trans (hsz p hp) (show 2147483647 ≤ 281474976710656 by omega))
    clear hsz HT
    go_wp2_with fail
    (with_reducible refine (spec_ScCond.calls _ t v _ HV.out).mono ?_)
    rintro e wb ⟨rfl, hdb⟩
    have HBb := Aside0.mk (below_then HBa.out HBa.out.size hdb.below)
    have HRb := Aside0.mk (Kd.C_below HRa.out hdb.below)
    clear hdb HRa HBa
    cases v with
    | false =>
      go_wp2_with fail
      go_ret
      exact ⟨rfl, HBb.out⟩
    | true =>
      have HNO := Aside0.mk (HVT.out rfl)
      clear dt ds
      go_wp2_with fail
      go_loopw [9, 32] (fun v9 v32 wr => ∃ k : Nat, v32 = .int .i64 k ∧ k ≤ ss.length ∧ v9 = .bool ((ss.take k).any fun x => decide (x = s)) ∧ Below wb.heap.size wb wr) (fun _ v32 _ => ss.length - (intOf v32).toNat)
      case atStart => exact ⟨0, rfl, by omega, rfl, Below.refl _ _⟩
      case round =>
        obtain ⟨k, rfl, hk, rfl, hB⟩ := hrel
        have HB := Aside0.mk hB
        have HRo := Aside0.mk (Kd.C_below HRb.out hB)
        clear hB
        obtain ⟨mm, hmm⟩ : ∃ b, b = ((ss.take k).any fun x => decide (x = s)) := ⟨_, rfl⟩
        rw [← hmm]
        have HMM := Aside0.mk hmm
        clear hmm
        by_cases hk0 : k < ss.length
        · have d0 : decide ((k : Int) < (ss.length : Int)) = true := decide_eq_true (by omega)
          obtain ⟨ad, e0, hx0⟩ := (Kd.reads_of_C (enc := Value.string) (d := ByteArray.empty) (h1 := fun _ => rfl) HRo.out).at_ (k : Int) (by omega) (by omega)
          cases e0
          obtain ⟨y, hy⟩ : ∃ y, y = rdOf ByteArray.empty ss (k : Int) := ⟨_, rfl⟩
          have hye : y = ss[k] := by rw [hy, rdOf_at ss k hk0]
          rw [← hy] at hx0
          simp only [Int.toNat_natCast] at hx0
          have HNX : Aside0 (((ss.take (k + 1)).any fun x => decide (x = s)) = (mm || (y.toList == s.toList))) := Aside0.mk (by
            rw [List.take_succ_eq_append_getElem hk0, List.any_append, ← HMM.out, ← hye]
            by_cases e : y = s
            · subst e; simp
            · have : ¬ y.toList = s.toList := fun h => e (bytes_of_toList h)
              simp [e, this])
          clear hy hye
          cases mm with
          | true =>
            go_wp2_with fail
            go_roundw
            case rel => exact ⟨k + 1, by go_num, by omega, by rw [HNX.out]; rfl, HB.out⟩
            case measure => simp [intOf]; omega
          | false =>
            obtain ⟨q, hq⟩ : ∃ q, q = (y.toList == s.toList) := ⟨_, rfl⟩
            have HQ := Aside0.mk hq
            have hq2 := hq.symm
            clear hq
            cases q with
            | true =>
              go_wp2_with fail
              go_roundw
              case rel => exact ⟨k + 1, by go_num, by omega, by rw [HNX.out, ← HQ.out]; rfl, HB.out⟩
              case measure => simp [intOf]; omega
            | false =>
              go_wp2_with fail
              go_roundw
              case rel => exact ⟨k + 1, by go_num, by omega, by rw [HNX.out, ← HQ.out]; rfl, HB.out⟩
              case measure => simp [intOf]; omega
        · obtain rfl : k = ss.length := by omega
          have d0 : decide ((ss.length : Int) < (ss.length : Int)) = false := decide_eq_false (by omega)
          have HM2 : Aside0 (mm = (ss.any fun x => decide (x = s))) := Aside0.mk (by rw [HMM.out, List.take_length])
          go_wp2_with fail
          have hfs := full_size t s
          have hcut := cut_some t s (by omega) HNO.out
          have HCUT := Aside0.mk hcut
          have hba := HB.out.alloc HB.out.size (.cells #[.string (t ++ ⟨#[58]⟩ ++ s)] 9)
          have hbb := hba.alloc hba.size (.cells #[.bool want] 4)
          have hbc := hbb.alloc hbb.size (.cells #[.string t, .slice A ss.length cs] 35)
          obtain ⟨w1, hw1⟩ : ∃ w1 : World, w1 = wr.alloc (.cells #[.string (t ++ ⟨#[58]⟩ ++ s)] 9) := ⟨_, rfl⟩
          have hz1 : w1.heap.size = wr.heap.size + 1 := by rw [hw1]; simp
          have ra : ReadsOf Value.string ByteArray.empty w1 (some ⟨wr.heap.size, 0, none⟩) 1 [t ++ ⟨#[58]⟩ ++ s] := by rw [hw1]; exact lit_s wr _
          rw [← hw1] at hba hbb hbc ⊢
          obtain ⟨w2, hw2⟩ : ∃ w2 : World, w2 = w1.alloc (.cells #[.bool want] 4) := ⟨_, rfl⟩
          have hz2 : w2.heap.size = wr.heap.size + 1 + 1 := by rw [hw2]; simp [hz1]
          have rb : ReadsOf Value.bool false w2 (some ⟨wr.heap.size + 1, 0, none⟩) 1 [want] := by rw [hw2, ← hz1]; exact lit_bw w1 want
          have b12 : Below w1.heap.size w1 w2 := by rw [hw2]; exact (Below.refl _ _).alloc (Nat.le_refl _) _
          rw [← hw2] at hbb hbc ⊢
          obtain ⟨w3, hw3⟩ : ∃ w3 : World, w3 = w2.alloc (.cells #[.string t, .slice A ss.length cs] 35) := ⟨_, rfl⟩
          have c0 : w3.cell? ⟨wr.heap.size + 1 + 1, 0, none⟩ = some (.string t) := by rw [hw3, World.cell?_alloc_at _ _ _ _ hz2.symm]; rfl
          have c1 : w3.cell? ⟨wr.heap.size + 1 + 1, 1, none⟩ = some (.slice A ss.length cs) := by rw [hw3, World.cell?_alloc_at _ _ _ _ hz2.symm]; rfl
          have b23 : Below w2.heap.size w2 w3 := by rw [hw3]; exact (Below.refl _ _).alloc (Nat.le_refl _) _
          rw [← hw3] at hbc ⊢
          have RS := Aside0.mk ((Kd.reads_of_C (enc := Value.string) (d := ByteArray.empty) (h1 := fun _ => rfl) HRb.out).below hbc)
          have RA := Aside0.mk ((ra.below b12).below b23)
          have RB := Aside0.mk (rb.below b23)
          have HBC := Aside0.mk hbc
          clear ra rb hba hbb hbc hw1 hw2 hw3 hz1 hz2 b12 b23 hcut
          (with_reducible refine (impl_pre wr.heap.size (wr.heap.size + 1) (wr.heap.size + 1 + 1) 1 1 1 cs A ss t s (t ++ ⟨#[58]⟩ ++ s) want w3 RS.out (by omega) HSZ.out (by omega) (by omega) HCUT.out RA.out RB.out c0 c1).mono ?_)
          rintro e w4 ⟨rfl, b4⟩
          have HB4 := Aside0.mk (below_then HBb.out HBb.out.size (below_then HBC.out HBC.out.size b4))
          clear b4 c0 c1 hfs
          rw [← HM2.out]
          cases mm with
          | true =>
            cases want with
            | true =>
              go_wp2_with fail
              go_ret
              exact ⟨rfl, HB4.out⟩
            | false =>
              go_wp2_with fail
              go_ret
              exact ⟨rfl, HB4.out⟩
          | false =>
            cases want with
            | true =>
              go_wp2_with fail
              go_ret
              exact ⟨rfl, HB4.out⟩
            | false =>
              go_wp2_with fail
              go_ret
              exact ⟨rfl, HB4.out⟩

end Go.Proofs.Ytkibblabjgoddaa.Tab

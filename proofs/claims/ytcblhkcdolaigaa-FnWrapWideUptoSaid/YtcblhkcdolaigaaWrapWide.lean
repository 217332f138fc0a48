/- The walk of the Go function laws.FnWrapWide: it returns true. Condition: the words hold together at most 2^20 letters and places. -/
import Derived.Test.YtcblhkcdolaigaaWrapWords
import Derived.Test.YtcblhkcdolaigaaPFnWrapWidex1
namespace Go.Proofs.Ytcblhkcdolaigaa.WrapWide
open Go.RowKit Go.Proofs.YtcblhkcdolaigaaW.PrintWords Go.Proofs.YtcblhkcdolaigaaW.PrintLast Go.Proofs.Ytcblhkcdolaigaa.PFnWrapShort Go.Proofs.Ytcblhkcdolaigaa.StrsIn Go.Proofs.Ytcblhkcdolaigaa.WordsP Go.Proofs.Ytcblhkcdolaigaa.WrapWords

/-- ScHas at a text without blanks says no -/
theorem has_no (s : ByteArray) (hn : s.size ≤ 2097152) (h : Wrap.NoSp s 0 s.size) (d : Nat) : ∀ (k i : Nat), i ≤ s.size → s.size - i = d → d < k → PFnWrapWide.spec_ScHas.l0 k s 32 (i : Int) = some false := by
  induction d with
  | zero =>
    intro k i h1 hd hk
    obtain ⟨k, rfl⟩ : ∃ m, k = m + 1 := ⟨k - 1, by omega⟩
    simp only [PFnWrapWide.spec_ScHas.l0]
    rw [if_neg (by omega)]
  | succ d ih =>
    intro k i h1 hd hk
    obtain ⟨k, rfl⟩ : ∃ m, k = m + 1 := ⟨k - 1, by omega⟩
    have h2 := ih k (i + 1) (by omega) (by omega) (by omega)
    simp only [PFnWrapWide.spec_ScHas.l0]
    rw [if_pos (by omega), if_pos (by omega), if_neg (h i (by omega) (by omega)), wrap_next (n := s.size) (by omega) (by omega) (by omega)]
    exact h2

theorem has_f (s : ByteArray) (hn : s.size ≤ 2097152) (h : Wrap.NoSp s 0 s.size) : PFnWrapWide.spec_ScHas.f (s.size + 1) s 32 = some false := has_no s hn h s.size _ 0 (by omega) (by omega) (by omega)

set_option maxHeartbeats 4000000 in
set_option maxRecDepth 100000 in
theorem walk (A : Option Addr) (c : Nat) (l : List ByteArray) (cols : Int) (w : World) (hr : Kd.C Kd.string w A l.length l) (hc : l.length ≤ c)
    (hw : wt l ≤ 1048575) :
    Calls Try.prog 9 #[.slice A l.length c, .int .i64 cols] w fun e w' => e = .returned (.bool true) ∧ Below w.heap.size w w' := by
  have hlen := wt_length l
  obtain ⟨indent, hind⟩ : ∃ i : ByteArray, i = ⟨#[]⟩ := ⟨_, rfl⟩
  have hi0 : indent.size = 0 := by rw [hind]; rfl
  obtain ⟨fb, hfb⟩ := fits_some l (by omega)
  obtain ⟨T, hT⟩ : ∃ T : ByteArray, T = ⟨(joined l).toArray⟩ := ⟨_, rfl⟩
  have hj := join_some l (by omega)
  rw [← hT] at hj
  have hTl : T.data.toList = joined l := by rw [hT]
  have hTs : T.size ≤ wt l := by
    have h1 := len_list T
    have := joined_wt l
    rw [← hTl] at this
    omega
  obtain ⟨gb, hgb, hgood⟩ := good_some l cols indent (by omega) (by omega)
  have HR := Aside0.mk hr
  have HF := Aside0.mk hfb
  have HJ := Aside0.mk hj
  have HG := Aside0.mk hgb
  have HGood := Aside0.mk (fun h => text_facts hTl (hgood h))
  have HI := Aside0.mk hind
  have HI0 := Aside0.mk hi0
  clear hr hfb hj hgb hgood hT hTl hind hi0
  cases fb with
  | false =>
    go_enter Try.func9, Try.ntmps9
    go_wp2_with fail
    (with_reducible refine (laws_zzFits3.calls _ A c l false _ HR.out hc HF.out).mono ?_)
    rintro e w1 ⟨rfl, ⟨n1, rfl⟩⟩
    go_wp2_with fail
    go_ret
    exact ⟨rfl, pw_below_drewN (Below.refl _ _) _⟩
  | true =>
    go_enter Try.func9, Try.ntmps9
    go_wp2_with fail
    (with_reducible refine (laws_zzFits3.calls _ A c l true _ HR.out hc HF.out).mono ?_)
    rintro e w1 ⟨rfl, ⟨n1, rfl⟩⟩
    have HR1 := Aside0.mk (Kd.C_below HR.out (pw_below_drewN (Below.refl w.heap.size w) n1))
    cases gb with
    | false =>
      go_wp2_with fail
      rw [← HI.out]
      (with_reducible refine (laws_scWrapGood.calls _ A c l cols indent false _ HR1.out hc HG.out).mono ?_)
      rintro e w3 ⟨rfl, ⟨n3, rfl⟩⟩
      go_wp2_with fail
      go_ret
      exact ⟨rfl, by repeat (first | exact Below.refl _ _ | apply pw_below_drewN)⟩
    | true =>
      obtain ⟨ht, hn, hin, c0, c1⟩ := HGood.out rfl
      have t0 := ht.1
      have HTi := Aside0.mk ht
      have H32 := Aside0.mk ht.2.1
      have HN := Aside0.mk hn
      have HIN := Aside0.mk hin
      clear ht hn hin HGood
      go_wp2_with fail
      rw [← HI.out]
      (with_reducible refine (laws_scWrapGood.calls _ A c l cols indent true _ HR1.out hc HG.out).mono ?_)
      rintro e w3 ⟨rfl, ⟨n3, rfl⟩⟩
      have HB3 := Aside0.mk (show Below w.heap.size w (w.drewN (n1 + n3)) from pw_below_drewN (Below.refl w.heap.size w) _)
      have HR3 := Aside0.mk (Kd.C_below HR.out HB3.out)
      go_wp2_with fail
      (with_reducible refine (spec_ScJoined.calls _ A c l sp T _ HR3.out hc HJ.out).mono ?_)
      rintro e w4 ⟨rfl, b4⟩
      have HB4 := Aside0.mk (below_then HB3.out HB3.out.size b4)
      clear b4 HB3 HR3 HR1
      go_wp2_with fail
      rw [← HI.out]
      (with_reducible refine (Wrap.wrap T indent cols _ (by omega) (by rw [HI0.out]; omega) t0 H32.out c0 c1).mono ?_)
      rintro e w5 ⟨L, rfl, hP, b5⟩
      obtain ⟨q1, q2, q3, q4⟩ := piece_facts (indent := indent) hP HN.out (by rw [HI0.out]; omega)
      have HB5 := Aside0.mk (below_then HB4.out HB4.out.size b5)
      have HQ1 := Aside0.mk q1
      have HW := Aside0.mk (pieces_wide hP HTi.out)
      obtain ⟨S, hS⟩ : ∃ S : ByteArray, S = ⟨(Wrap.shown indent.data.toList L).toArray⟩ := ⟨_, rfl⟩
      rw [← hS] at q3 ⊢
      have HS := Aside0.mk (show S.data.toList = Wrap.shown indent.data.toList L by rw [hS])
      clear b5 HB4 hP q1 hS
      go_wp2_with fail
      rw [← HI.out]
      (with_reducible refine (Split.wrapped S indent L _ HS.out HIN.out HQ1.out q2 q3).mono ?_)
      rintro e w6 ⟨v, rfl, o6, b6⟩
      have HB6 := Aside0.mk (below_then HB5.out HB5.out.size b6)
      obtain ⟨g, cap, rfl, hg1, hg2⟩ := o6.form q2
      have hcell : ∀ (j : Nat) (h : j < L.length), w6.cell? ⟨g, j, none⟩ = some (.string L[j]) := by
        intro j h
        have := o6.cells (g := g) rfl j (.string L[j]) (by unfold pw_strs; simp [h])
        rwa [add_plain] at this
      have HC := Aside0.mk hcell
      have hLw := wt_length L
      have HQ4 := Aside0.mk (fun (x : ByteArray) (hx : x ∈ L) => wt_mem hx)
      clear o6 b6 HB5 hcell
      go_wp2_with fail
      go_loopw [26] (fun v26 wr => ∃ k : Nat, v26 = .int .i64 k ∧ k ≤ L.length ∧ Below w6.heap.size w6 wr) (fun v26 _ => L.length - (intOf v26).toNat)
      case atStart => exact ⟨0, rfl, Nat.zero_le _, Below.refl _ _⟩
      case round =>
        obtain ⟨k, rfl, hk, hB⟩ := hrel
        have HB := Aside0.mk hB
        clear hB
        by_cases hlt : k < L.length
        · obtain ⟨x, hx⟩ : ∃ x : ByteArray, x = L[k] := ⟨_, rfl⟩
          have hcell : wr.cell? ⟨g, k, none⟩ = some (.string x) := by
            rw [hx]
            exact (HB.out.cell (p := ⟨g, k, none⟩) hg2).trans (HC.out k hlt)
          have hm : x ∈ L := by rw [hx]; exact List.getElem_mem hlt
          obtain ⟨x0, x1⟩ := HW.out x hm
          have xs := HQ4.out x hm
          have X1 := Aside0.mk x1
          have hne1 : (x.toList == ([] : List UInt8)) = false := by
            rw [beq_eq_false_iff_ne]
            intro e
            have := congrArg List.length e
            rw [ByteArray.toList_eq, len_list, List.length_nil] at this
            omega
          have hne2 : x.toList.isEmpty = false := by
            rw [List.isEmpty_eq_false_iff]
            simpa using hne1
          clear hx hm x1
          by_cases hc2 : cols < (x.size : Int)
          · have hd2 : decide (cols < (x.size : Int)) = true := decide_eq_true hc2
            have HF := Aside0.mk (has_f x (by omega) (by rcases X1.out with h | h; omega; exact h))
            go_wp2_with (go_at_call 21; (with_reducible refine (PFnWrapWide.spec_ScHas.calls (x.size + 1) x 32 false _ HF.out).mono ?_); rintro e w7 ⟨rfl, ⟨n7, rfl⟩⟩)
            go_roundw
            case rel => exact ⟨k + 1, by go_num, by omega, pw_below_drewN HB.out _⟩
            case measure => simp [intOf]; omega
          · have hd2 : decide (cols < (x.size : Int)) = false := decide_eq_false hc2
            go_wp2_with fail
            go_roundw
            case rel => exact ⟨k + 1, by go_num, by omega, HB.out⟩
            case measure => simp [intOf]; omega
        · have HB2 := Aside0.mk (below_then HB6.out HB6.out.size HB.out)
          go_wp2_with fail
          go_ret
          exact ⟨rfl, HB2.out⟩

end Go.Proofs.Ytcblhkcdolaigaa.WrapWide

/- The walk of the Go function laws.FnWrapWords: it returns true. Condition: words and indent hold together at most 2^20 letters and places. -/
import Derived.Test.YtcblhkcdolaigaaPieces
import Derived.Test.YtcblhkcdolaigaaWrapD
namespace Go.Proofs.Ytcblhkcdolaigaa.WrapWords
open Go.RowKit Go.Proofs.YtcblhkcdolaigaaW.PrintWords Go.Proofs.YtcblhkcdolaigaaW.PrintLast Go.Proofs.Ytcblhkcdolaigaa.PFnWrapShort Go.Proofs.Ytcblhkcdolaigaa.StrsIn Go.Proofs.Ytcblhkcdolaigaa.WordsP

/-- what is known of a text of good words -/
theorem text_facts {l : List ByteArray} {cols : Int} {indent T : ByteArray} (hT : T.data.toList = joined l) (h : WordsP.Good l cols indent) :
    Tidy T ∧ (∀ b ∈ T.data.toList, b ≠ 10) ∧ (∀ b ∈ indent.data.toList, b ≠ 10) ∧ 0 < cols ∧ cols ≤ 1000 := by
  obtain ⟨g1, g2, g3, g4, g5⟩ := h
  refine ⟨tidy_of T (by rw [hT]; exact joined_tidy l (by intro e; subst e; simp at g3) g1), by rw [hT]; exact joined_no_newline l g1, ?_, g4, g5⟩
  intro b hb e
  subst e
  obtain ⟨i, hi, he⟩ := List.mem_iff_getElem.1 hb
  have h1 := (bt_list indent i 10 (by decide)).2 (by rw [List.getElem?_eq_getElem hi, he]; rfl)
  rcases g2 i h1.2 with h2 | h2 <;> omega

/-- what is known of the pieces of such a text -/
theorem piece_facts {cols : Int} {T indent : ByteArray} {L : List ByteArray} (hP : Wrap.Pieces cols T L) (hn : ∀ b ∈ T.data.toList, b ≠ 10) (hs : T.size + indent.size ≤ 1048576) :
    (∀ x ∈ L, ∀ b ∈ x.data.toList, b ≠ 10) ∧ 0 < L.length ∧ (⟨(Wrap.shown indent.data.toList L).toArray⟩ : ByteArray).size ≤ 4398046511104 ∧ wt L ≤ 2097152 := by
  have hne := pieces_ne hP
  have hj := pieces_joined hP
  refine ⟨fun x hx b hb => hn b (by rw [← hj]; exact joined_mem hx hb), List.length_pos_iff.2 hne, ?_, ?_⟩
  · have h1 : (⟨(Wrap.shown indent.data.toList L).toArray⟩ : ByteArray).size = (Wrap.shown indent.data.toList L).length := by
      show (Wrap.shown indent.data.toList L).toArray.size = _
      simp
    rw [h1, Wrap.shown_length, len_list]
    have h2 := pieces_total indent.size hP
    have h3 : (T.size + 1) * (indent.size + 1) ≤ 1048577 * 1048577 := Nat.mul_le_mul (by omega) (by omega)
    omega
  · rw [wt_joined L hne, hj, len_list]
    omega

theorem row_reads {w : World} {base : Nat} {v : Value} {L : List ByteArray} (h : w.ownsRow base 9 1 v L.length (pw_strs L)) : ∃ A c, v = .slice A L.length c ∧ L.length ≤ c ∧ Kd.C Kd.string w A L.length L := by
  obtain ⟨A, c, e, hc, hr⟩ := own_reads_of_le (enc := Value.string) (d := ByteArray.empty) h
  exact ⟨A, c, e, hc, Kd.C_of_reads (enc := Value.string) (d := ByteArray.empty) (h1 := fun _ => rfl) hr⟩

set_option maxHeartbeats 4000000 in
set_option maxRecDepth 100000 in
theorem walk (A : Option Addr) (c : Nat) (l : List ByteArray) (cols : Int) (indent : ByteArray) (w : World) (hr : Kd.C Kd.string w A l.length l) (hc : l.length ≤ c)
    (hw : wt l + indent.size ≤ 1048576) :
    Calls Try.prog 10 #[.slice A l.length c, .int .i64 cols, .string indent] w fun e w' => e = .returned (.bool true) ∧ Below w.heap.size w w' := by
  have hlen := wt_length l
  obtain ⟨fb, hfb⟩ := fits_some l (by omega)
  obtain ⟨T, hT⟩ : ∃ T : ByteArray, T = ⟨(joined l).toArray⟩ := ⟨_, rfl⟩
  have hj := join_some l (by omega)
  rw [← hT] at hj
  have hTl : T.data.toList = joined l := by rw [hT]
  have hTs : T.size ≤ wt l := by
    have h1 := len_list T
    have := joined_wt l
    rw [← hTl] at this
    omega
  obtain ⟨gb, hgb, hgood⟩ := good_some l cols indent (by omega) (by omega)
  have HR := Aside0.mk hr
  have HF := Aside0.mk hfb
  have HJ := Aside0.mk hj
  have HG := Aside0.mk hgb
  have HGood := Aside0.mk (fun h => text_facts hTl (hgood h))
  have HT := Aside0.mk hT
  clear hr hfb hj hgb hgood hT hTl
  have hn1 : ¬ (2147483647 : Int) < (indent.size : Int) := by omega
  have hd1 : decide ((2147483647 : Int) < (indent.size : Int)) = false := decide_eq_false hn1
  cases fb with
  | false =>
    go_enter Try.func10, Try.ntmps10
    go_wp2_with fail
    (with_reducible refine (laws_zzFits3.calls _ A c l false _ HR.out hc HF.out).mono ?_)
    rintro e w1 ⟨rfl, ⟨n1, rfl⟩⟩
    go_wp2_with fail
    go_ret
    exact ⟨rfl, pw_below_drewN (Below.refl _ _) _⟩
  | true =>
    go_enter Try.func10, Try.ntmps10
    go_wp2_with fail
    (with_reducible refine (laws_zzFits3.calls _ A c l true _ HR.out hc HF.out).mono ?_)
    rintro e w1 ⟨rfl, ⟨n1, rfl⟩⟩
    have HR1 := Aside0.mk (Kd.C_below HR.out (pw_below_drewN (Below.refl w.heap.size w) n1))
    cases gb with
    | false =>
      go_wp2_with fail
      (with_reducible refine (laws_scWrapGood.calls _ A c l cols indent false _ HR1.out hc HG.out).mono ?_)
      rintro e w3 ⟨rfl, ⟨n3, rfl⟩⟩
      go_wp2_with fail
      go_ret
      exact ⟨rfl, by repeat (first | exact Below.refl _ _ | apply pw_below_drewN)⟩
    | true =>
      obtain ⟨ht, hn, hin, c0, c1⟩ := HGood.out rfl
      have t0 := ht.1
      have H32 := Aside0.mk ht.2.1
      have HN := Aside0.mk hn
      have HIN := Aside0.mk hin
      clear ht hn hin HGood
      go_wp2_with fail
      (with_reducible refine (laws_scWrapGood.calls _ A c l cols indent true _ HR1.out hc HG.out).mono ?_)
      rintro e w3 ⟨rfl, ⟨n3, rfl⟩⟩
      have HB3 := Aside0.mk (show Below w.heap.size w (w.drewN (n1 + n3)) from pw_below_drewN (Below.refl w.heap.size w) _)
      have HR3 := Aside0.mk (Kd.C_below HR.out HB3.out)
      go_wp2_with fail
      (with_reducible refine (spec_ScJoined.calls _ A c l sp T _ HR3.out hc HJ.out).mono ?_)
      rintro e w4 ⟨rfl, b4⟩
      have HB4 := Aside0.mk (below_then HB3.out HB3.out.size b4)
      have HR4 := Aside0.mk (Kd.C_below HR3.out b4)
      clear b4 HB3 HR3 HR1
      go_wp2_with fail
      (with_reducible refine (Wrap.wrap T indent cols _ (by omega) (by omega) t0 H32.out c0 c1).mono ?_)
      rintro e w5 ⟨L, rfl, hP, b5⟩
      have hjl := pieces_joined hP
      obtain ⟨q1, q2, q3, q4⟩ := piece_facts (indent := indent) hP HN.out (by omega)
      have HB5 := Aside0.mk (below_then HB4.out HB4.out.size b5)
      have HR5 := Aside0.mk (Kd.C_below HR4.out b5)
      have HJL := Aside0.mk (show spec_ScJoined.f (L.length + 1) L sp = some T from by
        have h := join_some L q4
        rw [hjl] at h
        rw [h])
      have HQ1 := Aside0.mk q1
      obtain ⟨S, hS⟩ : ∃ S : ByteArray, S = ⟨(Wrap.shown indent.data.toList L).toArray⟩ := ⟨_, rfl⟩
      rw [← hS] at q3 ⊢
      have HS := Aside0.mk (show S.data.toList = Wrap.shown indent.data.toList L by rw [hS])
      clear b5 HB4 HR4 hP hjl q1 hS
      go_wp2_with fail
      (with_reducible refine (Split.wrapped S indent L _ HS.out HIN.out HQ1.out q2 q3).mono ?_)
      rintro e w6 ⟨v, rfl, o6, b6⟩
      have HB6 := Aside0.mk (below_then HB5.out HB5.out.size b6)
      have HR6 := Aside0.mk (Kd.C_below HR5.out b6)
      obtain ⟨A2, c2, rfl, hc2, r2⟩ := row_reads o6
      have HL6 := Aside0.mk r2
      clear o6 b6 r2 HB5 HR5
      go_wp2_with fail
      (with_reducible refine (spec_ScJoined.calls _ A2 c2 L sp T _ HL6.out hc2 HJL.out).mono ?_)
      rintro e w7 ⟨rfl, b7⟩
      have HB7 := Aside0.mk (below_then HB6.out HB6.out.size b7)
      have HR7 := Aside0.mk (Kd.C_below HR6.out b7)
      clear b7 HB6 HR6
      go_wp2_with fail
      (with_reducible refine (spec_ScJoined.calls _ A c l sp T _ HR7.out hc HJ.out).mono ?_)
      rintro e w8 ⟨rfl, b8⟩
      have HB8 := Aside0.mk (below_then HB7.out HB7.out.size b8)
      clear b8 HB7 HR7
      go_wp2_with fail
      go_ret
      exact ⟨by simp, HB8.out⟩

end Go.Proofs.Ytcblhkcdolaigaa.WrapWords

/- The walk of the Go function laws.FnWrapShort: it returns true. Condition: words and indent hold together at most 2^20 letters and places. -/
import Derived.Test.YtcblhkcdolaigaaWordsPlain
import Derived.Test.YtcblhkcdolaigaaWrapD
namespace Go.Proofs.Ytcblhkcdolaigaa.Short
open Go.RowKit Go.Proofs.YtcblhkcdolaigaaW.PrintWords Go.Proofs.YtcblhkcdolaigaaW.PrintLast Go.Proofs.Ytcblhkcdolaigaa.PFnWrapShort Go.Proofs.Ytcblhkcdolaigaa.StrsIn Go.Proofs.Ytcblhkcdolaigaa.WordsP

theorem pieces_short {cols : Int} {s : ByteArray} {L : List ByteArray} (h : Wrap.Pieces cols s L) (hs : (s.size : Int) ≤ cols) : L = [s] := by
  cases h with
  | last h => rfl
  | more best L hl hb h32 h hL => omega

theorem short_text (t indent : ByteArray) : (⟨(Wrap.shown indent.data.toList [t]).toArray⟩ : ByteArray) = indent ++ t ++ ⟨#[10]⟩ := by
  apply ByteArray.ext
  apply Array.ext'
  simp [Wrap.shown]

set_option maxHeartbeats 4000000 in
set_option maxRecDepth 100000 in
theorem walk (A : Option Addr) (c : Nat) (l : List ByteArray) (cols : Int) (indent : ByteArray) (w : World) (hr : Kd.C Kd.string w A l.length l) (hc : l.length ≤ c)
    (hw : wt l + indent.size ≤ 1048576) :
    Calls Try.prog 8 #[.slice A l.length c, .int .i64 cols, .string indent] w fun e w' => e = .returned (.bool true) ∧ Below w.heap.size w w' := by
  have hlen := wt_length l
  obtain ⟨fb, hfb⟩ := fits_some l (by omega)
  obtain ⟨T, hT⟩ : ∃ T : ByteArray, T = ⟨(joined l).toArray⟩ := ⟨_, rfl⟩
  have hj := join_some l (by omega)
  rw [← hT] at hj
  have hTl : T.data.toList = joined l := by rw [hT]
  have hTs : T.size ≤ wt l := by
    have h1 : T.data.toList.length = T.size := by rw [Array.length_toList]; rfl
    have := joined_wt l
    rw [← hTl] at this
    omega
  obtain ⟨gb, hgb, hgood⟩ := good_some l cols indent (by omega) (by omega)
  have hgood2 : gb = true → 0 < T.size ∧ bt T 0 ≠ 32 ∧ 0 < cols ∧ cols ≤ 1000 := fun h => by
    obtain ⟨g1, _, g3, g4, g5⟩ := hgood h
    have ht := tidy_of T (by rw [hTl]; exact joined_tidy l (by intro e; subst e; simp at g3) g1)
    exact ⟨ht.1, ht.2.1, g4, g5⟩
  have HR := Aside0.mk hr
  have HF := Aside0.mk hfb
  have HJ := Aside0.mk hj
  have HG := Aside0.mk hgb
  have HGood := Aside0.mk hgood2
  clear hr hfb hj hgb hgood hgood2 hT hTl
  have hn1 : ¬ (2147483647 : Int) < (indent.size : Int) := by omega
  have hd1 : decide ((2147483647 : Int) < (indent.size : Int)) = false := decide_eq_false hn1
  cases fb with
  | false =>
    go_enter Try.func8, Try.ntmps8
    go_wp2_with fail
    (with_reducible refine (laws_zzFits3.calls _ A c l false _ HR.out hc HF.out).mono ?_)
    rintro e w1 ⟨rfl, ⟨n1, rfl⟩⟩
    go_wp2_with fail
    go_ret
    exact ⟨rfl, pw_below_drewN (Below.refl _ _) _⟩
  | true =>
    have big : indent.size + T.size + 1 ≤ 9223372036854775807 := by omega
    go_enter Try.func8, Try.ntmps8
    go_wp2_with fail
    (with_reducible refine (laws_zzFits3.calls _ A c l true _ HR.out hc HF.out).mono ?_)
    rintro e w1 ⟨rfl, ⟨n1, rfl⟩⟩
    have HR1 := Aside0.mk (Kd.C_below HR.out (pw_below_drewN (Below.refl w.heap.size w) n1))
    go_wp2_with fail
    (with_reducible refine (spec_ScJoined.calls _ A c l sp T _ HR1.out hc HJ.out).mono ?_)
    rintro e w2 ⟨rfl, b2⟩
    have HR2 := Aside0.mk (Kd.C_below HR1.out b2)
    have HB2 := Aside0.mk (show Below w.heap.size w w2 from (pw_below_drewN (Below.refl _ _) n1).trans b2)
    clear b2 HR HR1
    cases gb with
    | false =>
      go_wp2_with fail
      (with_reducible refine (laws_scWrapGood.calls _ A c l cols indent false _ HR2.out hc HG.out).mono ?_)
      rintro e w3 ⟨rfl, ⟨n3, rfl⟩⟩
      go_wp2_with fail
      go_ret
      exact ⟨rfl, pw_below_drewN HB2.out _⟩
    | true =>
      obtain ⟨t0, t32, c0, c1⟩ := HGood.out rfl
      have H32 := Aside0.mk t32
      clear t32 HGood
      by_cases hcs : cols < (T.size : Int)
      · have hd2 : decide (cols < (T.size : Int)) = true := decide_eq_true hcs
        go_wp2_with fail
        (with_reducible refine (laws_scWrapGood.calls _ A c l cols indent true _ HR2.out hc HG.out).mono ?_)
        rintro e w3 ⟨rfl, ⟨n3, rfl⟩⟩
        go_wp2_with fail
        go_ret
        exact ⟨rfl, pw_below_drewN HB2.out _⟩
      · have hd2 : decide (cols < (T.size : Int)) = false := decide_eq_false hcs
        go_wp2_with fail
        (with_reducible refine (laws_scWrapGood.calls _ A c l cols indent true _ HR2.out hc HG.out).mono ?_)
        rintro e w3 ⟨rfl, ⟨n3, rfl⟩⟩
        go_wp2_with fail
        (with_reducible refine (Wrap.wrap T indent cols _ (by omega) (by omega) t0 H32.out c0 c1).mono ?_)
        rintro e w4 ⟨L, rfl, hP, b4⟩
        obtain rfl := pieces_short hP (by omega)
        rw [short_text]
        have HB4 := Aside0.mk (below_then (pw_below_drewN HB2.out n3) HB2.out.size b4)
        clear b4 hP
        go_wp2_with fail
        go_ret
        exact ⟨by simp, HB4.out⟩

end Go.Proofs.Ytcblhkcdolaigaa.Short

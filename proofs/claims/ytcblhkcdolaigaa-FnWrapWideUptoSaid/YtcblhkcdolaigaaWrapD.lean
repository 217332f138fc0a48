/- impl.WrapLine: what it returns is the pieces of the line, each with the indent ahead and a newline behind. Conditions: the line begins with no blank and is not empty; line and indent are at most 2^21 bytes; 1 to 1000 columns. -/
import Derived.Test.YtcblhkcdolaigaaWrapC
namespace Go.Proofs.Ytcblhkcdolaigaa.Wrap
open Go.RowKit Go.Proofs.YtcblhkcdolaigaaW.PrintWords

set_option maxHeartbeats 1000000 in
set_option maxRecDepth 100000 in
theorem zz_wrap (line indent : ByteArray) (cols : Int) (w : World)
    (hl : line.size ≤ 2097152) (hi : indent.size ≤ 2097152) (h0 : 0 < line.size) (h32 : bt line 0 ≠ 32) (hc0 : 0 < cols) (hc1 : cols ≤ 1000) :
    Calls Try.prog 35 #[.string line, .int .i64 cols, .string indent] w fun e w' => ∃ L : List ByteArray, e = .returned (.string ⟨(shown indent.data.toList L).toArray⟩) ∧ Pieces cols line L ∧ Below w.heap.size w w' := by
  have H32 := Aside0.mk h32
  clear h32
  go_enter Try.func35, Try.ntmps35
  go_wp2_with fail
  (with_reducible refine (wrap_line w.heap.size w.heap.size line indent cols _ (Lib.fresh_isBuilder 59 5 w) (by simp) hl hi h0 H32.out hc0 hc1).mono ?_)
  rintro e w1 ⟨L, rfl, hP, hI, hb⟩
  have HP := Aside0.mk hP
  have HB := Aside0.mk (show Below w.heap.size w w1 from ((Below.refl _ w).alloc (Nat.le_refl _) _).trans hb)
  clear hP hb
  go_wp2_with fail
  (with_reducible refine (Try.Builder_String_any w.heap.size w.heap.size (shown indent.data.toList L) _ hI HB.out.size).mono ?_)
  rintro e w2 ⟨rfl, hb2⟩
  have HB2 := Aside0.mk (HB.out.trans hb2)
  clear hb2 HB hI
  go_wp2_with fail
  go_ret
  exact ⟨L, rfl, HP.out, HB2.out⟩

theorem wrap (line indent : ByteArray) (cols : Int) (w : World)
    (hl : line.size ≤ 2097152) (hi : indent.size ≤ 2097152) (h0 : 0 < line.size) (h32 : bt line 0 ≠ 32) (hc0 : 0 < cols) (hc1 : cols ≤ 1000) :
    Calls Try.prog 25 #[.string line, .int .i64 cols, .string indent] w fun e w' => ∃ L : List ByteArray, e = .returned (.string ⟨(shown indent.data.toList L).toArray⟩) ∧ Pieces cols line L ∧ Below w.heap.size w w' := by
  have H32 := Aside0.mk h32
  clear h32
  go_enter Try.func25, Try.ntmps25
  go_wp2_with fail
  (with_reducible refine (zz_wrap line indent cols _ hl hi h0 H32.out hc0 hc1).mono ?_)
  rintro e w1 ⟨L, rfl, hP, hb⟩
  have HP := Aside0.mk hP
  have HB := Aside0.mk hb
  clear hP hb
  go_wp2_with fail
  go_ret
  exact ⟨L, rfl, HP.out, HB.out⟩

end Go.Proofs.Ytcblhkcdolaigaa.Wrap

/- bytes.Buffer's Len and Next, of an empty buffer. -/
import Derived.Test.YtodofpjdcongnaaDoorStore
namespace Go.Proofs.YtodofpjdcongnaaDoor.Sign
open Go.RowKit Go.Proofs.YtodofpjdcongnaaDoorW.PrintWords Go.Proofs.YtodofpjdcongnaaDoor.PFnSignHeaders

theorem grown_put (w : World) (g o : Nat) (v : Value) : w.grownBy (w.setCell ⟨g, o, none⟩ v) (some g) := grown_cells w g o [v]
theorem grown_drewN (w : World) (n : Nat) (row : Option Nat) : w.grownBy (w.drewN n) row := ⟨rfl, rfl, rfl, Nat.le_refl _, fun _ _ _ => rfl⟩

set_option maxHeartbeats 4000000 in
theorem buf_len (g : Nat) (x : Int) (w : World) (h : w.heap[g]? = some (.cells #[.slice none 0 0, .int .i64 0, .int .i8 x] 51 (0, 0))) :
    Calls Tryd.prog 46 #[.pointer (some ⟨g, 0, none⟩)] w fun e w' => e = .returned (.int .i64 0) ∧ ∃ m, w' = w.drewN m := by
  have hc0 : w.cell? ⟨g, 0, none⟩ = some (.slice none 0 0) := (blk_cell h 0).trans rfl
  have hc1 : w.cell? ⟨g, 1, none⟩ = some (.int .i64 0) := (blk_cell h 1).trans rfl
  clear h
  go_enter Tryd.func46, Tryd.ntmps46
  go_wp2
  repeat (go_quiet (fail); try go_wp2)
  go_ret
  exact ⟨rfl, _, rfl⟩

set_option maxHeartbeats 4000000 in
theorem next_empty (g : Nat) (x : Int) (w : World) (h : w.heap[g]? = some (.cells #[.slice none 0 0, .int .i64 0, .int .i8 x] 51 (0, 0))) :
    Calls Tryd.prog 37 #[.pointer (some ⟨g, 0, none⟩), .int .i64 4096] w fun e w' => e = .returned (.slice none 0 0) ∧ w.grownBy w' (some g) := by
  have hc0 : w.cell? ⟨g, 0, none⟩ = some (.slice none 0 0) := (blk_cell h 0).trans rfl
  have hc1 : w.cell? ⟨g, 1, none⟩ = some (.int .i64 0) := (blk_cell h 1).trans rfl
  have hc2 : w.cell? ⟨g, 2, none⟩ = some (.int .i8 x) := (blk_cell h 2).trans rfl
  have hf0 := blk_frozen h 0
  have hf1 := blk_frozen h 1
  have hf2 := blk_frozen h 2
  have hb : (w.setCell ⟨g, 2, none⟩ (.int .i8 0)).heap[g]? = some (.cells #[.slice none 0 0, .int .i64 0, .int .i8 0] 51 (0, 0)) := blk_put h 2 _ rfl
  have HB := Aside0.mk hb
  have hu51 := Tryd.underlying51
  clear h hb
  go_enter Tryd.func37, Tryd.ntmps37
  go_wp2_with fail
  (with_reducible refine (buf_len g 0 _ HB.out).mono ?_)
  rintro e w1 ⟨rfl, m, rfl⟩
  go_wp2_with fail
  repeat (go_quiet (fail); try go_wp2)
  go_ret
  exact ⟨rfl, ((grown_put w g 2 _).trans (grown_drewN _ _ _)).trans (grown_put _ g 1 _)⟩
end Go.Proofs.YtodofpjdcongnaaDoor.Sign

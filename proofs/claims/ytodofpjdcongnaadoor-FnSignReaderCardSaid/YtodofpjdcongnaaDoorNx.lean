/- bytes.Buffer's Len and Next, of a buffer that holds something. -/
import Derived.Test.YtodofpjdcongnaaDoorS256
import Derived.Deep.QuietTactic
import Derived.BigQuiet
namespace Go.Proofs.YtodofpjdcongnaaDoor.Sign
open Go.RowKit Go.Proofs.YtodofpjdcongnaaDoorW.PrintWords

set_option maxHeartbeats 4000000 in
theorem buf_len_data (g b o n c p : Nat) (x : Int) (w : World) (h : w.heap[g]? = some (.cells #[.slice (some ⟨b, o, none⟩) n c, .int .i64 (p : Int), .int .i8 x] 51 (0, 0))) (hp : p ≤ n) (hn : n ≤ 2147483647) :
    Calls Tryd.prog 46 #[.pointer (some ⟨g, 0, none⟩)] w fun e w' => e = .returned (.int .i64 ((n : Int) - p)) ∧ ∃ m, w' = w.drewN m := by
  have hc0 : w.cell? ⟨g, 0, none⟩ = some (.slice (some ⟨b, o, none⟩) n c) := (blk_cell h 0).trans rfl
  have hc1 : w.cell? ⟨g, 1, none⟩ = some (.int .i64 (p : Int)) := (blk_cell h 1).trans rfl
  have hr : IntKind.i64.wrap ((n : Int) - p) = (n : Int) - p := IntWalk.i64_in _ (by omega)
  clear h
  go_enter Tryd.func46, Tryd.ntmps46
  go_wp2
  go_quiet (fail)
  clear hr
  go_wp2
  go_ret
  exact ⟨rfl, _, rfl⟩

theorem put2_nx {g : Nat} {s : Value} {p : Value} {x : Value} {T : TypeId} (w : World) (m : Nat) (v u : Value) (h : w.heap[g]? = some (.cells #[s, p, x] T (0, 0))) : (((w.drewN m).setCell ⟨g, 1, none⟩ v).setCell ⟨g, 2, none⟩ u).heap[g]? = some (.cells #[s, v, u] T (0, 0)) := by
  have h1 : ((w.drewN m).setCell ⟨g, 1, none⟩ v).heap[g]? = some (.cells #[s, v, x] T (0, 0)) := blk_put h 1 _ rfl
  exact blk_put h1 2 _ rfl

set_option maxHeartbeats 8000000 in
set_option maxRecDepth 100000 in
theorem next_data (g b o n c p l : Nat) (x : Int) (w : World) (h : w.heap[g]? = some (.cells #[.slice (some ⟨b, o, none⟩) n c, .int .i64 (p : Int), .int .i8 x] 51 (0, 0))) (hp : p < n) (hl : l = min 4096 (n - p)) (hn : n ≤ 2147483647) (hnc : n ≤ c) :
    Calls Tryd.prog 37 #[.pointer (some ⟨g, 0, none⟩), .int .i64 4096] w fun e w' => e = .returned (.slice (some ⟨b, o + p, none⟩) l (c - p)) ∧ w'.heap[g]? = some (.cells #[.slice (some ⟨b, o, none⟩) n c, .int .i64 ((p + l : Nat) : Int), .int .i8 (-1)] 51 (0, 0)) ∧ w.grownBy w' (some g) := by
  have hc0 : w.cell? ⟨g, 0, none⟩ = some (.slice (some ⟨b, o, none⟩) n c) := (blk_cell h 0).trans rfl
  have hc1 : w.cell? ⟨g, 1, none⟩ = some (.int .i64 (p : Int)) := (blk_cell h 1).trans rfl
  have hc2 : w.cell? ⟨g, 2, none⟩ = some (.int .i8 x) := (blk_cell h 2).trans rfl
  have hf0 := blk_frozen h 0
  have hf1 := blk_frozen h 1
  have hf2 := blk_frozen h 2
  have hb : (w.setCell ⟨g, 2, none⟩ (.int .i8 0)).heap[g]? = some (.cells #[.slice (some ⟨b, o, none⟩) n c, .int .i64 (p : Int), .int .i8 0] 51 (0, 0)) := blk_put h 2 _ rfl
  have HB := Aside0.mk hb
  have H := Aside0.mk h
  have HL := Aside0.mk hl
  have hu51 := Tryd.underlying51
  have hlb : 0 < l ∧ l ≤ 4096 ∧ p + l ≤ n := by omega
  obtain ⟨hl1, hl2, hl3⟩ := hlb
  have hcp : ¬ c = p := by omega
  have z1 : (p : Int) + (l : Int) ≤ (c : Int) := by omega
  have z2 : (p : Int) ≤ (p : Int) + (l : Int) := by omega
  have z3 : 0 ≤ (p : Int) + (l : Int) := by omega
  have r1 : IntKind.i64.wrap ((p : Int) + (l : Int)) = (p : Int) + (l : Int) := IntWalk.i64_in _ (by omega)
  have r2 : ((p : Int) + (l : Int)).toNat = p + l := by omega
  have HR1 := Aside0.mk r1
  have HR2 := Aside0.mk r2
  clear h hb hl r1 r2
  by_cases hbig : 4096 ≤ n - p
  · have hl4 : l = 4096 := by have := HL.out; omega
    subst hl4
    have hi : (n : Int) - p ≥ 4096 := by omega
    have hi2 : ¬ (n : Int) - p < 4096 := by omega
    go_enter Tryd.func37, Tryd.ntmps37
    go_wp2_with fail
    (with_reducible refine (buf_len_data g b o n c p 0 _ HB.out (by omega) hn).mono ?_)
    rintro e w1 ⟨rfl, m, rfl⟩
    go_wp2_with fail
    have r1 : IntKind.i64.wrap ((p : Int) + 4096) = (p : Int) + 4096 := IntWalk.i64_in _ (by omega)
    have r2 : ((p : Int) + 4096).toNat = p + 4096 := by omega
    go_quiet (fail)
    clear r1 r2
    go_wp2
    go_ret
    refine ⟨rfl, ?_, ?_⟩
    · rw [show ((p + 4096 : Nat) : Int) = (p : Int) + 4096 by omega]
      exact put2_nx _ _ _ _ HB.out
    · exact (((grown_put w g 2 _).trans (grown_drewN _ _ _)).trans (grown_put _ g 1 _)).trans (grown_put _ g 2 _)
  · have hl4 : l = n - p := by have := HL.out; omega
    have hnl : (n : Int) - p = (l : Int) := by omega
    have hi2 : (l : Int) < 4096 := by omega
    have hi3 : (0 : Int) < (l : Int) := by omega
    have HL4 := Aside0.mk hl4
    clear hl4 hbig
    go_enter Tryd.func37, Tryd.ntmps37
    go_wp2_with fail
    (with_reducible refine (buf_len_data g b o n c p 0 _ HB.out (by omega) hn).mono ?_)
    rintro e w1 ⟨rfl, m, rfl⟩
    go_wp2_with fail
    have r1 := HR1.out
    have r2 := HR2.out
    go_quiet (fail)
    clear r1 r2
    go_wp2
    go_ret
    refine ⟨rfl, ?_, ?_⟩
    · rw [show ((p + l : Nat) : Int) = (p : Int) + l by omega]
      exact put2_nx _ _ _ _ HB.out
    · exact (((grown_put w g 2 _).trans (grown_drewN _ _ _)).trans (grown_put _ g 1 _)).trans (grown_put _ g 2 _)
end Go.Proofs.YtodofpjdcongnaaDoor.Sign

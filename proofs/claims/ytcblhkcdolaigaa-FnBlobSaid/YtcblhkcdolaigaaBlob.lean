/- The walk of the Go function laws.FnBlob: for every three numbers of 32 bits the call returns true. No condition but that. -/
import Derived.Test.YtcblhkcdolaigaaBlobA
import Derived.Test.YtcblhkcdolaigaaWGuard
namespace Go.Proofs.Ytcblhkcdolaigaa.BlobA
open Go.RowKit Go.Proofs.YtcblhkcdolaigaaW.PrintWords

theorem info5 : (Try.prog.info? 5).map (fun i => (i.zero, i.size, i.bytes)) = some (some (.int .u8 0), 1, 1) := by kernel_rfl

theorem blobR (x y : Int) (w : World) (h0 : 0 ≤ x) (h1 : x ≤ 4294967295) (g0 : 0 ≤ y) (g1 : y ≤ 4294967295) : Calls Try.prog 15 #[.int .u32 x, .int .u32 y] w fun e w' =>
    e = .returned (.slice (some ⟨w.heap.size, 0, none⟩) 8 8) ∧ ReadsInt w' .u8 (some ⟨w.heap.size, 0, none⟩) 8 (four x ++ four y) ∧ Below w.heap.size w w' :=
  (blob x y w h0 h1 g0 g1).mono fun _ _ ⟨he, hw⟩ => ⟨he, by
    subst hw
    exact (own_reads' (own_lit w w.heap.size 5 .u8 (four x ++ four y) (Nat.le_refl _) (by simp [four]))).allocS _, by
    subst hw
    exact below_alloc (below_alloc (Below.refl _ _) _) _⟩

theorem superblobR (x y z : Int) (w : World) (h0 : 0 ≤ x) (h1 : x ≤ 4294967295) (g0 : 0 ≤ y) (g1 : y ≤ 4294967295) (k0 : 0 ≤ z) (k1 : z ≤ 4294967295) : Calls Try.prog 17 #[.int .u32 x, .int .u32 y, .int .u32 z] w fun e w' =>
    e = .returned (.slice (some ⟨w.heap.size, 0, none⟩) 12 12) ∧ ReadsInt w' .u8 (some ⟨w.heap.size, 0, none⟩) 12 (four x ++ four y ++ four z) ∧ Below w.heap.size w w' :=
  (superblob x y z w h0 h1 g0 g1 k0 k1).mono fun _ _ ⟨he, hw⟩ => ⟨he, by
    subst hw
    exact (own_reads' (own_lit w w.heap.size 5 .u8 (four x ++ four y ++ four z) (Nat.le_refl _) (by simp [four]))).allocS _, by
    subst hw
    exact below_alloc (below_alloc (Below.refl _ _) _) _⟩

theorem wordsR (x : Int) (w : World) (base : Nat) (hb : base ≤ w.heap.size) (h0 : 0 ≤ x) (h1 : x ≤ 4294967295) : Calls Try.prog 16 #[.int .u32 x] w fun e w' =>
    e = .returned (.slice (some ⟨w.heap.size, 0, none⟩) 4 4) ∧ w'.ownsRow base 5 1 (.slice (some ⟨w.heap.size, 0, none⟩) 4 4) 4 (nums .u8 (four x)) ∧ Below w.heap.size w w' :=
  (words x w h0 h1).mono fun _ _ ⟨he, hw⟩ => ⟨he, by subst hw; exact words_own x w base hb, by subst hw; exact below_alloc (Below.refl _ _) _⟩

theorem below_mono0 {w w' : World} (h : Below w.heap.size w w') : Below w.heap.size w w' := h

set_option maxHeartbeats 1000000 in
theorem walk (x y z : Int) (w : World) (h0 : 0 ≤ x) (h1 : x ≤ 4294967295) (g0 : 0 ≤ y) (g1 : y ≤ 4294967295) (k0 : 0 ≤ z) (k1 : z ≤ 4294967295) :
    Calls Try.prog 5 #[.int .u32 x, .int .u32 y, .int .u32 z] w fun e w' => e = .returned (.bool true) ∧ Below w.heap.size w w' := by
  go_enter Try.func5, Try.ntmps5
  go_wp2_with fail
  (with_reducible refine (blobR x y _ h0 h1 g0 g1).mono ?_)
  rintro e w1 ⟨rfl, r1, b1⟩
  have R1 := Aside0.mk r1
  have B1 := Aside0.mk b1
  have s1 := b1.size
  clear r1 b1
  go_wp2_with fail
  (with_reducible refine (wordsR x _ w1.heap.size (Nat.le_refl _) h0 h1).mono ?_)
  rintro e w2 ⟨rfl, o2, b2⟩
  have O2 := Aside0.mk o2
  have B2 := Aside0.mk b2
  have s2 := b2.size
  clear o2 b2
  go_wp2_with fail
  (with_reducible refine (wordsR y _ w1.heap.size s2 g0 g1).mono ?_)
  rintro e w3 ⟨rfl, o3, b3⟩
  have O3 := Aside0.mk (pw_own_below O2.out b3)
  have Q3 := Aside0.mk (own_reads' o3)
  have B3 := Aside0.mk (below_then B2.out s2 b3)
  have s3 := b3.size
  clear o3 b3
  go_wp2_with (at_builtin; refine print_append_row (w0 := w1) w1.heap.size rfl (.tmp 11) (.tmp 13) 26 5 .u8 1 rfl Try.underlying26 info5 (by decide) (.slice (some ⟨w1.heap.size, 0, none⟩) 4 4) (four x) (four y) (some ⟨w2.heap.size, 0, none⟩) 4 4 rfl rfl O3.out Q3.out B3.out (by omega) (by simp [four]) ?_; intro v4 w4 o4 b4 _ _)
  obtain ⟨A4, c4, e4, r4⟩ := own_reads o4
  subst e4
  have l4 : (four x ++ four y).length = 8 := by simp [four]
  rw [l4] at r4 ⊢
  (with_reducible refine (same _ _ _ _ _ _ _ _ (R1.out.below (by exact below_mono0 b4)) r4).mono ?_)
  rintro e w5 ⟨rfl, rfl⟩
  have s4 := b4.size
  have B4 := Aside0.mk (below_then B1.out s1 b4)
  clear o4 b4 r4 l4 R1 B1 O2 B2 O3 Q3 B3
  go_wp2_with fail
  (with_reducible refine (superblobR x y z _ h0 h1 g0 g1 k0 k1).mono ?_)
  rintro e w6 ⟨rfl, r6, b6⟩
  have R6 := Aside0.mk r6
  have B6 := Aside0.mk (below_then B4.out (by omega) b6)
  have s6 := b6.size
  clear r6 b6 B4
  go_wp2_with fail
  (with_reducible refine (wordsR x _ w6.heap.size (Nat.le_refl _) h0 h1).mono ?_)
  rintro e w7 ⟨rfl, o7, b7⟩
  have O7 := Aside0.mk o7
  have B7 := Aside0.mk b7
  have s7 := b7.size
  clear o7 b7
  go_wp2_with fail
  (with_reducible refine (wordsR y _ w6.heap.size s7 g0 g1).mono ?_)
  rintro e w8 ⟨rfl, o8, b8⟩
  have O8 := Aside0.mk (pw_own_below O7.out b8)
  have Q8 := Aside0.mk (own_reads' o8)
  have B8 := Aside0.mk (below_then B7.out s7 b8)
  have s8 := b8.size
  clear o8 b8 O7 B7
  go_wp2_with (at_builtin; refine gate_guard (by rfl) ?_; refine print_append_row (w0 := w6) w6.heap.size rfl (.tmp 22) (.tmp 24) 26 5 .u8 1 rfl Try.underlying26 info5 (by decide) (.slice (some ⟨w6.heap.size, 0, none⟩) 4 4) (four x) (four y) (some ⟨w7.heap.size, 0, none⟩) 4 4 rfl rfl O8.out Q8.out B8.out (by omega) (by simp [four]) ?_; intro v9 w9 o9 b9 _ _)
  have O9 := Aside0.mk o9
  have B9 := Aside0.mk b9
  have s9 := b9.size
  clear o9 b9 O8 Q8 B8
  (with_reducible refine (wordsR z _ w6.heap.size s9 k0 k1).mono ?_)
  rintro e wa ⟨rfl, oa, ba⟩
  have OA := Aside0.mk (pw_own_below O9.out ba)
  have QA := Aside0.mk (own_reads' oa)
  have BA := Aside0.mk (below_then B9.out s9 ba)
  have sa := ba.size
  clear oa ba O9 B9
  go_wp2_with (at_builtin; refine gate_guard (by rfl) ?_; refine print_append_row (w0 := w6) w6.heap.size rfl (.tmp 25) (.tmp 27) 26 5 .u8 1 rfl Try.underlying26 info5 (by decide) v9 (four x ++ four y) (four z) (some ⟨w9.heap.size, 0, none⟩) 4 4 rfl rfl OA.out QA.out BA.out (by omega) (by simp [four]) ?_; intro vb wb ob bb _ _)
  obtain ⟨Ab, cb, eb, rb⟩ := own_reads ob
  subst eb
  have lb : (four x ++ four y ++ four z).length = 12 := by simp [four]
  rw [lb] at rb ⊢
  (with_reducible refine (same _ _ _ _ _ _ _ _ (R6.out.below (by exact below_mono0 bb)) rb).mono ?_)
  rintro e wc ⟨rfl, rfl⟩
  have BB := Aside0.mk (below_then B6.out (by omega) bb)
  clear ob bb rb lb R6 B6 OA QA BA
  go_wp2_with fail
  go_ret
  exact ⟨rfl, BB.out⟩

end Go.Proofs.Ytcblhkcdolaigaa.BlobA

/- zzInSet and zzTrimLeft where the set is one blank: a text whose first byte is no blank stays. -/
import Derived.Test.YtcblhkcdolaigaaWrapA
import Derived.Test.YtcblhkcdolaigaaWrapPlain
import Derived.Lib.OthersKept
namespace Go.Proofs.Ytcblhkcdolaigaa.Wrap
open Go.RowKit Go.Proofs.YtcblhkcdolaigaaW.PrintWords

set_option maxHeartbeats 1000000 in
set_option maxRecDepth 100000 in
theorem inset_no (c : Int) (w : World) (hc : (c == 32) = false) :
    Calls Try.prog 54 #[.int .i32 c, .string ⟨#[32]⟩] w fun e w' => e = .returned (.bool false) ∧ Below w.heap.size w w' := by
  go_enter Try.func54, Try.ntmps54
  go_wp2
  go_loopw [] (fun wr => ∃ pos : Nat, pos ≤ 1 ∧ wr.heap[w.heap.size]? = some (.stringIter ⟨#[32]⟩ pos) ∧ Below w.heap.size w wr) (fun wr => 1 - wr.iterPos w.heap.size)
  case atStart =>
    refine ⟨0, by omega, ?_, (Below.refl _ w).alloc (Nat.le_refl _) _⟩
    simpa using World.iter_heap w ⟨#[32]⟩ 0
  case round =>
    obtain ⟨pos, hp, hit, hbw⟩ := hrel
    by_cases hp0 : pos = 0
    · subst hp0
      have hnx : ∀ ty, (Instr.next (.pointer (some ⟨w.heap.size, 0, none⟩)) true ty).run Try.prog wr = .ok (.tuple #[.bool true, .int .i64 0, .int .i32 32]) (wr.iterAt w.heap.size ⟨#[32]⟩ 1) := fun ty => Lib.run_next_ascii_at wr w.heap.size ⟨#[32]⟩ 0 ty hit (by decide) (by decide)
      have hit2 := Lib.iterAt_heap wr w.heap.size ⟨#[32]⟩ 0 1 hit
      have hbw2 := Lib.below_iterAt hbw (k := w.heap.size) (by omega) ⟨#[32]⟩ 1
      have HI := Aside0.mk hit
      clear hit
      go_wp2
      go_roundw
      case rel => exact ⟨1, by omega, hit2, hbw2⟩
      case measure => simp only [World.iterPos, hit2, HI.out]; omega
    · have hnx : ∀ ty, (Instr.next (.pointer (some ⟨w.heap.size, 0, none⟩)) true ty).run Try.prog wr = .ok (.tuple #[.bool false]) wr := fun ty => Lib.run_next_end_at wr w.heap.size ⟨#[32]⟩ pos ty hit (by show ¬ pos < 1; omega)
      go_wp2
      go_ret
      exact ⟨rfl, hbw⟩

set_option maxHeartbeats 1000000 in
set_option maxRecDepth 100000 in
theorem trim_stays (s : ByteArray) (w : World) (h0 : 0 < s.size) (_hm : s.size ≤ 281474976710656) (h32 : bt s 0 ≠ 32) :
    Calls Try.prog 48 #[.string s, .string ⟨#[32]⟩] w fun e w' => e = .returned (.string s) ∧ Below w.heap.size w w' := by
  have hd : (((Utf8.decode s 0).1 : Int) == 32) = false := by
    rw [beq_eq_false_iff_ne]
    intro h
    exact h32 ((rune_is s 0 h0 32 (by decide)).1 (by omega))
  have hw0 : ((Utf8.decode s 0).1 : Int) ≤ 2147483647 := by have := decode_le s 0; omega
  have hex : s.extract 0 s.size = s := by simp
  go_enter Try.func48, Try.ntmps48
  go_wp2
  go_loopw [] (fun wr => wr.heap[w.heap.size]? = some (.stringIter s 0) ∧ Below w.heap.size w wr) (fun _ => 0)
  case atStart =>
    exact ⟨by simpa using World.iter_heap w s 0, (Below.refl _ w).alloc (Nat.le_refl _) _⟩
  case round =>
    obtain ⟨hit, hbw⟩ := hrel
    have hnx : ∀ ty, (Instr.next (.pointer (some ⟨w.heap.size, 0, none⟩)) true ty).run Try.prog wr = .ok (.tuple #[.bool true, .int .i64 0, .int .i32 (Utf8.decode s 0).1]) (wr.iterAt w.heap.size s (Utf8.decode s 0).2) := fun ty => by
      have h := Lib.run_next_any_at (P := Try.prog) wr w.heap.size s 0 ty hit h0
      simpa using h
    have hbw2 := Aside0.mk (Lib.below_iterAt hbw (k := w.heap.size) (by omega) s (Utf8.decode s 0).2)
    clear hit hbw
    go_wp2_with (go_at_call 54; refine (inset_no _ _ hd).mono ?_)
    rintro e w1 ⟨rfl, b1⟩
    have HB := Aside0.mk (below_then hbw2.out hbw2.out.size b1)
    clear b1 hbw2
    go_wp2
    go_ret
    exact ⟨rfl, HB.out⟩

end Go.Proofs.Ytcblhkcdolaigaa.Wrap

/- zzContainsAny and quoteArgs at one argument of letters, digits and underscores: it is quoted as it is. -/
import Derived.Test.YtcblhkcdolaigaaPFnQuoteOnex1
import Derived.Test.YtcblhkcdolaigaaWrapC
namespace Go.Proofs.Ytcblhkcdolaigaa.Quote
open Go.RowKit Go.Proofs.YtcblhkcdolaigaaW.PrintWords

/-- a letter, a digit or an underscore -/
def Aln (c : Int) : Prop := (97 ≤ c ∧ c ≤ 122) ∨ (65 ≤ c ∧ c ≤ 90) ∨ (48 ≤ c ∧ c ≤ 57) ∨ c = 95

/-- the signs that want quotes -/
abbrev signs : ByteArray := ⟨#[38, 39, 36, 32, 9, 13, 10, 35]⟩
theorem signs_at : ∀ (i : Nat) (h : i < 8), (signs[i]'h).toNat < 128 ∧ ((signs[i]'h).toNat ≤ 39) := by decide

set_option maxHeartbeats 4000000 in
set_option maxRecDepth 100000 in
theorem index_none (s : ByteArray) (w : World) (ha : ∀ j : Nat, j < s.size → Aln (bt s (j : Int))) :
    Calls Try.prog 56 #[.string s, .string signs] w fun e w' => e = .returned (.int .i64 (-1)) ∧ Below w.heap.size w w' := by
  have HA := Aside0.mk ha
  clear ha
  go_enter Try.func56, Try.ntmps56
  go_wp2_with fail
  go_loopw [] (fun wr => ∃ pos : Nat, pos ≤ s.size ∧ wr.heap[w.heap.size]? = some (.stringIter s pos) ∧ Below w.heap.size w wr) (fun wr => s.size - wr.iterPos w.heap.size)
  case atStart =>
    exact ⟨0, Nat.zero_le _, by simpa using World.iter_heap w s 0, (Below.refl _ w).alloc (Nat.le_refl _) _⟩
  case round =>
    obtain ⟨wo, rfl⟩ : ∃ wo : World, wo = wr := ⟨_, rfl⟩
    obtain ⟨pos, hp, hit, hbw⟩ := hrel
    have HIT := Aside0.mk hit
    by_cases hpos : pos < s.size
    · obtain ⟨c, hc⟩ : ∃ c : Int, c = bt s (pos : Int) := ⟨_, rfl⟩
      have hca : Aln c := by rw [hc]; exact HA.out pos hpos
      have hlt : (s[pos]'hpos).toNat < 128 := by
        have h1 := Wrap.bt_get s pos hpos
        rw [← hc] at h1
        unfold Aln at hca
        omega
      have hnx : ∀ ty, (Instr.next (.pointer (some ⟨w.heap.size, 0, none⟩)) true ty).run Try.prog wo = .ok (.tuple #[.bool true, .int .i64 pos, .int .i32 c]) (wo.iterAt w.heap.size s (pos + 1)) := fun ty => by
        have h := Lib.run_next_ascii_at (P := Try.prog) wo w.heap.size s pos ty hit hpos hlt
        rw [← Wrap.bt_get s pos hpos, ← hc] at h
        exact h
      have hc0 : 48 ≤ c := by unfold Aln at hca; omega
      have hc1 : c ≤ 122 := by unfold Aln at hca; omega
      have HT2 := Aside0.mk (Lib.iterAt_heap wo w.heap.size s pos (pos + 1) hit)
      have HB2 := Aside0.mk (Lib.below_iterAt hbw (k := w.heap.size) (by omega) s (pos + 1))
      obtain ⟨wn, hwn⟩ : ∃ wn : World, wn = wo.iterAt w.heap.size s (pos + 1) := ⟨_, rfl⟩
      rw [← hwn] at hnx HT2 HB2
      have hltn : w.heap.size < wn.heap.size := (Array.getElem?_eq_some_iff.1 HT2.out).1
      clear hwn hlt hca hit hbw hc
      go_wp2_with fail
      go_loopw [] (fun wi => ∃ q : Nat, q ≤ 8 ∧ wi.heap[wn.heap.size]? = some (.stringIter signs q) ∧ Below wn.heap.size wn wi) (fun wi => 8 - wi.iterPos wn.heap.size)
      case atStart =>
        exact ⟨0, by omega, by simpa using World.iter_heap wn signs 0, (Below.refl _ wn).alloc (Nat.le_refl _) _⟩
      case round =>
        obtain ⟨q, hq, hit, hbi⟩ := hrel
        have HIQ := Aside0.mk hit
        by_cases hq8 : q < 8
        · obtain ⟨h1, h2⟩ := signs_at q hq8
          obtain ⟨d, hd⟩ : ∃ d : Int, d = ((signs[q]'hq8).toNat : Int) := ⟨_, rfl⟩
          have hnq : ∀ ty, (Instr.next (.pointer (some ⟨wn.heap.size, 0, none⟩)) true ty).run Try.prog wr = .ok (.tuple #[.bool true, .int .i64 q, .int .i32 d]) (wr.iterAt wn.heap.size signs (q + 1)) := fun ty => by
            have h := Lib.run_next_ascii_at (P := Try.prog) wr wn.heap.size signs q ty hit hq8 h1
            rw [← hd] at h
            exact h
          have hne : (c == d) = false := by rw [beq_eq_false_iff_ne]; omega
          have HQ2 := Aside0.mk (Lib.iterAt_heap wr wn.heap.size signs q (q + 1) hit)
          have HBQ := Aside0.mk (Lib.below_iterAt hbi (k := wn.heap.size) (by omega) signs (q + 1))
          clear hit hbi h1 h2 hd
          go_wp2_with fail
          go_roundw
          case rel => exact ⟨q + 1, by omega, HQ2.out, HBQ.out⟩
          case measure => simp only [World.iterPos, HQ2.out, HIQ.out]; omega
        · have hnq : ∀ ty, (Instr.next (.pointer (some ⟨wn.heap.size, 0, none⟩)) true ty).run Try.prog wr = .ok (.tuple #[.bool false]) wr := fun ty => Lib.run_next_end_at wr wn.heap.size signs q ty hit hq8
          have HBQ := Aside0.mk hbi
          clear hit hbi
          go_wp2_with fail
          go_roundw
          case rel => exact ⟨pos + 1, by omega, (HBQ.out.block _ hltn).trans HT2.out, below_then HB2.out (by omega) HBQ.out⟩
          case measure => simp only [World.iterPos, (HBQ.out.block _ hltn).trans HT2.out, HIT.out]; omega
    · have hnx : ∀ ty, (Instr.next (.pointer (some ⟨w.heap.size, 0, none⟩)) true ty).run Try.prog wo = .ok (.tuple #[.bool false]) wo := fun ty => Lib.run_next_end_at wo w.heap.size s pos ty hit hpos
      have HB2 := Aside0.mk hbw
      clear hit hbw
      go_wp2_with fail
      go_ret
      exact ⟨rfl, HB2.out⟩

theorem contains_none (s : ByteArray) (w : World) (ha : ∀ j : Nat, j < s.size → Aln (bt s (j : Int))) :
    Calls Try.prog 51 #[.string s, .string signs] w fun e w' => e = .returned (.bool false) ∧ Below w.heap.size w w' := by
  have HA := Aside0.mk ha
  clear ha
  go_enter Try.func51, Try.ntmps51
  go_wp2_with fail
  (with_reducible refine (index_none s _ HA.out).mono ?_)
  rintro e w1 ⟨rfl, b1⟩
  have HB := Aside0.mk b1
  clear b1
  go_wp2_with fail
  go_ret
  exact ⟨rfl, HB.out⟩

/-- what the builder holds behind k rounds -/
def held (s : ByteArray) : Nat → List UInt8
  | 0 => []
  | _ => s.data.toList

set_option maxHeartbeats 4000000 in
set_option maxRecDepth 100000 in
theorem quote_args (g c : Nat) (s : ByteArray) (w : World) (hg : g < w.heap.size) (hcell : w.cell? ⟨g, 0, none⟩ = some (.string s)) (h0 : 0 < s.size) (hs : s.size ≤ 140737488355328)
    (ha : ∀ j : Nat, j < s.size → Aln (bt s (j : Int))) :
    Calls Try.prog 44 #[.slice (some ⟨g, 0, none⟩) 1 c] w fun e w' => e = .returned (.string s) ∧ Below w.heap.size w w' := by
  have HA := Aside0.mk ha
  have HC := Aside0.mk hcell
  have hne : ((s.size : Int) == 0) = false := by rw [beq_eq_false_iff_ne]; omega
  clear ha hcell
  go_enter Try.func44, Try.ntmps44
  go_wp2_with fail
  go_loopw [8] (fun v8 wr => ∃ k : Nat, v8 = .int .i64 k ∧ k ≤ 1 ∧ Lib.IsBuilder 59 5 w.heap.size w.heap.size (Lib.byteCells (held s k)) wr ∧ Below w.heap.size w wr) (fun v8 _ => 1 - (intOf v8).toNat)
  case atStart => exact ⟨0, rfl, by omega, Lib.fresh_isBuilder 59 5 w, (Below.refl _ w).alloc (Nat.le_refl _) _⟩
  case round =>
    obtain ⟨k, rfl, hk, hI, hB⟩ := hrel
    have HI := Aside0.mk hI
    have HB := Aside0.mk hB
    have hsz := hB.size
    clear hI hB
    by_cases hk0 : k = 0
    · subst hk0
      have hc1 : wr.cell? ⟨g, 0, none⟩ = some (.string s) := (HB.out.cell (p := ⟨g, 0, none⟩) hg).trans HC.out
      go_wp2_with fail
      (with_reducible refine (contains_none s _ HA.out).mono ?_)
      rintro e w1 ⟨rfl, b1⟩
      have HI1 := Aside0.mk (Wrap.builder_below HI.out b1)
      have HB1 := Aside0.mk (below_then HB.out hsz b1)
      have hsz1 := b1.size
      clear b1 hc1
      go_wp2_with fail
      (with_reducible refine (Bld.write w.heap.size w.heap.size (Lib.byteCells (held s 0)) s _ HI1.out (by simpa [held, Lib.byteCells] using hs) (by omega)).mono ?_)
      rintro e w2 ⟨rfl, h2, b2⟩
      have H2 := Aside0.mk h2
      have HB2 := Aside0.mk (HB1.out.trans b2)
      clear h2 b2
      go_wp2_with fail
      go_roundw
      case rel => exact ⟨1, by go_num, by omega, .inr (by simpa [held, Lib.byteCells, Lib.strCells] using H2.out), HB2.out⟩
      case measure => simp [intOf]
    · obtain rfl : k = 1 := by omega
      go_wp2_with fail
      (with_reducible refine (Try.Builder_String_any w.heap.size w.heap.size (held s 1) _ HI.out (by omega)).mono ?_)
      rintro e w2 ⟨rfl, b2⟩
      have HB2 := Aside0.mk (HB.out.trans b2)
      clear b2
      have he : (⟨(held s 1).toArray⟩ : ByteArray) = s := by
        apply ByteArray.ext
        simp [held]
      rw [he]
      go_wp2_with fail
      go_ret
      exact ⟨rfl, HB2.out⟩

end Go.Proofs.Ytcblhkcdolaigaa.Quote

/- regexp.specialBytes: the table of the signs that want a backslash. -/
import Derived.Test.YtopmkiadoacipaaLawA
import Derived.Lib.SlBytesConst
namespace Go.Proofs.Ytopmkiadoacipaa.Xp
open Go.RowKit Go.Proofs.YtopmkiadoacipaaW.PrintWords

/-- the signs -/
abbrev sg : Array Value := #[.int .u8 92, .int .u8 46, .int .u8 43, .int .u8 42, .int .u8 63, .int .u8 40, .int .u8 41, .int .u8 124, .int .u8 91, .int .u8 93, .int .u8 123, .int .u8 125, .int .u8 94, .int .u8 36]
/-- the table behind k of them -/
def Tb : Nat → Array Value
  | 0 => #[.int .u8 0, .int .u8 0, .int .u8 0, .int .u8 0, .int .u8 0, .int .u8 0, .int .u8 0, .int .u8 0, .int .u8 0, .int .u8 0, .int .u8 0, .int .u8 0, .int .u8 0, .int .u8 0, .int .u8 0, .int .u8 0]
  | 1 => #[.int .u8 0, .int .u8 0, .int .u8 0, .int .u8 0, .int .u8 0, .int .u8 0, .int .u8 0, .int .u8 0, .int .u8 0, .int .u8 0, .int .u8 0, .int .u8 0, .int .u8 32, .int .u8 0, .int .u8 0, .int .u8 0]
  | 2 => #[.int .u8 0, .int .u8 0, .int .u8 0, .int .u8 0, .int .u8 0, .int .u8 0, .int .u8 0, .int .u8 0, .int .u8 0, .int .u8 0, .int .u8 0, .int .u8 0, .int .u8 32, .int .u8 0, .int .u8 4, .int .u8 0]
  | 3 => #[.int .u8 0, .int .u8 0, .int .u8 0, .int .u8 0, .int .u8 0, .int .u8 0, .int .u8 0, .int .u8 0, .int .u8 0, .int .u8 0, .int .u8 0, .int .u8 4, .int .u8 32, .int .u8 0, .int .u8 4, .int .u8 0]
  | 4 => #[.int .u8 0, .int .u8 0, .int .u8 0, .int .u8 0, .int .u8 0, .int .u8 0, .int .u8 0, .int .u8 0, .int .u8 0, .int .u8 0, .int .u8 4, .int .u8 4, .int .u8 32, .int .u8 0, .int .u8 4, .int .u8 0]
  | 5 => #[.int .u8 0, .int .u8 0, .int .u8 0, .int .u8 0, .int .u8 0, .int .u8 0, .int .u8 0, .int .u8 0, .int .u8 0, .int .u8 0, .int .u8 4, .int .u8 4, .int .u8 32, .int .u8 0, .int .u8 4, .int .u8 8]
  | 6 => #[.int .u8 0, .int .u8 0, .int .u8 0, .int .u8 0, .int .u8 0, .int .u8 0, .int .u8 0, .int .u8 0, .int .u8 4, .int .u8 0, .int .u8 4, .int .u8 4, .int .u8 32, .int .u8 0, .int .u8 4, .int .u8 8]
  | 7 => #[.int .u8 0, .int .u8 0, .int .u8 0, .int .u8 0, .int .u8 0, .int .u8 0, .int .u8 0, .int .u8 0, .int .u8 4, .int .u8 4, .int .u8 4, .int .u8 4, .int .u8 32, .int .u8 0, .int .u8 4, .int .u8 8]
  | 8 => #[.int .u8 0, .int .u8 0, .int .u8 0, .int .u8 0, .int .u8 0, .int .u8 0, .int .u8 0, .int .u8 0, .int .u8 4, .int .u8 4, .int .u8 4, .int .u8 4, .int .u8 160, .int .u8 0, .int .u8 4, .int .u8 8]
  | 9 => #[.int .u8 0, .int .u8 0, .int .u8 0, .int .u8 0, .int .u8 0, .int .u8 0, .int .u8 0, .int .u8 0, .int .u8 4, .int .u8 4, .int .u8 4, .int .u8 36, .int .u8 160, .int .u8 0, .int .u8 4, .int .u8 8]
  | 10 => #[.int .u8 0, .int .u8 0, .int .u8 0, .int .u8 0, .int .u8 0, .int .u8 0, .int .u8 0, .int .u8 0, .int .u8 4, .int .u8 4, .int .u8 4, .int .u8 36, .int .u8 160, .int .u8 32, .int .u8 4, .int .u8 8]
  | 11 => #[.int .u8 0, .int .u8 0, .int .u8 0, .int .u8 0, .int .u8 0, .int .u8 0, .int .u8 0, .int .u8 0, .int .u8 4, .int .u8 4, .int .u8 4, .int .u8 164, .int .u8 160, .int .u8 32, .int .u8 4, .int .u8 8]
  | 12 => #[.int .u8 0, .int .u8 0, .int .u8 0, .int .u8 0, .int .u8 0, .int .u8 0, .int .u8 0, .int .u8 0, .int .u8 4, .int .u8 4, .int .u8 4, .int .u8 164, .int .u8 160, .int .u8 160, .int .u8 4, .int .u8 8]
  | 13 => #[.int .u8 0, .int .u8 0, .int .u8 0, .int .u8 0, .int .u8 0, .int .u8 0, .int .u8 0, .int .u8 0, .int .u8 4, .int .u8 4, .int .u8 4, .int .u8 164, .int .u8 160, .int .u8 160, .int .u8 36, .int .u8 8]
  | _ => #[.int .u8 0, .int .u8 0, .int .u8 0, .int .u8 0, .int .u8 4, .int .u8 0, .int .u8 0, .int .u8 0, .int .u8 4, .int .u8 4, .int .u8 4, .int .u8 164, .int .u8 160, .int .u8 160, .int .u8 36, .int .u8 8]

theorem convert_same (w : World) : (convert 52 52 (.slice (some ⟨w.heap.size + 1, 0, none⟩) 14 14)).run Try.prog ((w.alloc (.cells (Tb 0) 81)).alloc (.cells sg 5)) =
    .ok (.slice (some ⟨w.heap.size + 1, 0, none⟩) 14 14) ((w.alloc (.cells (Tb 0) 81)).alloc (.cells sg 5 (14, 15))) := by
  have h := Lib.run_convert_bytes_const (P := Try.prog) (w.alloc (.cells (Tb 0) 81)) 52 5 sg 14 14 Try.underlying52 Try.underlying5
  have hz : (w.alloc (.cells (Tb 0) 81)).heap.size = w.heap.size + 1 := by simp
  rw [hz] at h
  exact h

theorem sg_cell (T : Array Value) (w : World) (j : Nat) : ((w.alloc (.cells T 81)).alloc (.cells sg 5 (14, 15))).cell? ⟨w.heap.size + 1, j, none⟩ = sg[j]? := by
  have h := World.cell?_alloc_mark (w.alloc (.cells T 81)) sg 5 (14, 15) j
  have hz : (w.alloc (.cells T 81)).heap.size = w.heap.size + 1 := by simp
  rw [hz] at h
  exact h

set_option maxHeartbeats 8000000 in
set_option maxRecDepth 100000 in
theorem bytes_is (w : World) : Calls Try.prog 45 #[] w fun e w' => e = .returned (.agg (Tb 14)) ∧ Below w.heap.size w w' := by
  have hcv := convert_same w
  simp only [Tb, sg] at hcv
  go_enter Try.func45, Try.ntmps45
  go_wp2_with fail
  go_loopw [6] (fun v6 wr => ∃ k : Nat, v6 = .int .i64 k ∧ k ≤ 14 ∧ wr = (w.alloc (.cells (Tb k) 81)).alloc (.cells sg 5 (14, 15))) (fun v6 _ => 14 - (intOf v6).toNat)
  case atStart => exact ⟨0, rfl, by omega, rfl⟩
  case round =>
    obtain ⟨k, rfl, hk, rfl⟩ := hrel
    clear hcv
    obtain rfl | rfl | rfl | rfl | rfl | rfl | rfl | rfl | rfl | rfl | rfl | rfl | rfl | rfl | rfl := (show k = 0 ∨ k = 1 ∨ k = 2 ∨ k = 3 ∨ k = 4 ∨ k = 5 ∨ k = 6 ∨ k = 7 ∨ k = 8 ∨ k = 9 ∨ k = 10 ∨ k = 11 ∨ k = 12 ∨ k = 13 ∨ k = 14 from by omega)
    · show _
      have hl : ((w.alloc (.cells (Tb 0) 81)).alloc (.cells sg 5 (14, 15))).cell? ⟨w.heap.size + 1, 0, none⟩ = some (.int .u8 92) := sg_cell _ w 0
      simp only [Tb, sg] at hl ⊢
      go_wp2_with fail
      go_roundw
      case rel => exact ⟨1, by go_num, by omega, by rfl⟩
      case measure => simp [intOf]
    · show _
      have hl : ((w.alloc (.cells (Tb 1) 81)).alloc (.cells sg 5 (14, 15))).cell? ⟨w.heap.size + 1, 1, none⟩ = some (.int .u8 46) := sg_cell _ w 1
      simp only [Tb, sg] at hl ⊢
      go_wp2_with fail
      go_roundw
      case rel => exact ⟨2, by go_num, by omega, by rfl⟩
      case measure => simp [intOf]
    · show _
      have hl : ((w.alloc (.cells (Tb 2) 81)).alloc (.cells sg 5 (14, 15))).cell? ⟨w.heap.size + 1, 2, none⟩ = some (.int .u8 43) := sg_cell _ w 2
      simp only [Tb, sg] at hl ⊢
      go_wp2_with fail
      go_roundw
      case rel => exact ⟨3, by go_num, by omega, by rfl⟩
      case measure => simp [intOf]
    · show _
      have hl : ((w.alloc (.cells (Tb 3) 81)).alloc (.cells sg 5 (14, 15))).cell? ⟨w.heap.size + 1, 3, none⟩ = some (.int .u8 42) := sg_cell _ w 3
      simp only [Tb, sg] at hl ⊢
      go_wp2_with fail
      go_roundw
      case rel => exact ⟨4, by go_num, by omega, by rfl⟩
      case measure => simp [intOf]
    · show _
      have hl : ((w.alloc (.cells (Tb 4) 81)).alloc (.cells sg 5 (14, 15))).cell? ⟨w.heap.size + 1, 4, none⟩ = some (.int .u8 63) := sg_cell _ w 4
      simp only [Tb, sg] at hl ⊢
      go_wp2_with fail
      go_roundw
      case rel => exact ⟨5, by go_num, by omega, by rfl⟩
      case measure => simp [intOf]
    · show _
      have hl : ((w.alloc (.cells (Tb 5) 81)).alloc (.cells sg 5 (14, 15))).cell? ⟨w.heap.size + 1, 5, none⟩ = some (.int .u8 40) := sg_cell _ w 5
      simp only [Tb, sg] at hl ⊢
      go_wp2_with fail
      go_roundw
      case rel => exact ⟨6, by go_num, by omega, by rfl⟩
      case measure => simp [intOf]
    · show _
      have hl : ((w.alloc (.cells (Tb 6) 81)).alloc (.cells sg 5 (14, 15))).cell? ⟨w.heap.size + 1, 6, none⟩ = some (.int .u8 41) := sg_cell _ w 6
      simp only [Tb, sg] at hl ⊢
      go_wp2_with fail
      go_roundw
      case rel => exact ⟨7, by go_num, by omega, by rfl⟩
      case measure => simp [intOf]
    · show _
      have hl : ((w.alloc (.cells (Tb 7) 81)).alloc (.cells sg 5 (14, 15))).cell? ⟨w.heap.size + 1, 7, none⟩ = some (.int .u8 124) := sg_cell _ w 7
      simp only [Tb, sg] at hl ⊢
      go_wp2_with fail
      go_roundw
      case rel => exact ⟨8, by go_num, by omega, by rfl⟩
      case measure => simp [intOf]
    · show _
      have hl : ((w.alloc (.cells (Tb 8) 81)).alloc (.cells sg 5 (14, 15))).cell? ⟨w.heap.size + 1, 8, none⟩ = some (.int .u8 91) := sg_cell _ w 8
      simp only [Tb, sg] at hl ⊢
      go_wp2_with fail
      go_roundw
      case rel => exact ⟨9, by go_num, by omega, by rfl⟩
      case measure => simp [intOf]
    · show _
      have hl : ((w.alloc (.cells (Tb 9) 81)).alloc (.cells sg 5 (14, 15))).cell? ⟨w.heap.size + 1, 9, none⟩ = some (.int .u8 93) := sg_cell _ w 9
      simp only [Tb, sg] at hl ⊢
      go_wp2_with fail
      go_roundw
      case rel => exact ⟨10, by go_num, by omega, by rfl⟩
      case measure => simp [intOf]
    · show _
      have hl : ((w.alloc (.cells (Tb 10) 81)).alloc (.cells sg 5 (14, 15))).cell? ⟨w.heap.size + 1, 10, none⟩ = some (.int .u8 123) := sg_cell _ w 10
      simp only [Tb, sg] at hl ⊢
      go_wp2_with fail
      go_roundw
      case rel => exact ⟨11, by go_num, by omega, by rfl⟩
      case measure => simp [intOf]
    · show _
      have hl : ((w.alloc (.cells (Tb 11) 81)).alloc (.cells sg 5 (14, 15))).cell? ⟨w.heap.size + 1, 11, none⟩ = some (.int .u8 125) := sg_cell _ w 11
      simp only [Tb, sg] at hl ⊢
      go_wp2_with fail
      go_roundw
      case rel => exact ⟨12, by go_num, by omega, by rfl⟩
      case measure => simp [intOf]
    · show _
      have hl : ((w.alloc (.cells (Tb 12) 81)).alloc (.cells sg 5 (14, 15))).cell? ⟨w.heap.size + 1, 12, none⟩ = some (.int .u8 94) := sg_cell _ w 12
      simp only [Tb, sg] at hl ⊢
      go_wp2_with fail
      go_roundw
      case rel => exact ⟨13, by go_num, by omega, by rfl⟩
      case measure => simp [intOf]
    · show _
      have hl : ((w.alloc (.cells (Tb 13) 81)).alloc (.cells sg 5 (14, 15))).cell? ⟨w.heap.size + 1, 13, none⟩ = some (.int .u8 36) := sg_cell _ w 13
      simp only [Tb, sg] at hl ⊢
      go_wp2_with fail
      go_roundw
      case rel => exact ⟨14, by go_num, by omega, by rfl⟩
      case measure => simp [intOf]
    · show _
      simp only [Tb, sg]
      go_wp2_with fail
      have hblk : ((w.alloc (.cells (Tb 14) 81)).alloc (.cells sg 5 (14, 15))).heap[w.heap.size]? = some (.cells (Tb 14) 81 (0, 0)) := blk_alloc (blk_new w _) _
      refine bodyPost_ret (results_single rfl (.cell w.heap.size 81 (Tb 14) (0, 0) _ rfl hblk Try.underlying81 rfl (by kernel_rfl) .nil)) rfl ?_
      exact ⟨rfl, ((Below.refl _ w).alloc (Nat.le_refl _) _).alloc (by simp) _⟩

end Go.Proofs.Ytopmkiadoacipaa.Xp

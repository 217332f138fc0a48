/- The small headers: what spec.Words, impl.Blob, impl.SuperBlob and spec.SameBytes return: numbers in four bytes, the high ones first. Conditions: the numbers are of 32 bits. -/
import Derived.Test.YtcblhkcdolaigaaProg
import Derived.WalkKit
import Derived.KernelRfl
import Derived.Test.YtcblhkcdolaigaaWWords
namespace Go.Proofs.Ytcblhkcdolaigaa.BlobA
open Go.RowKit Go.Proofs.YtcblhkcdolaigaaW.PrintWords

/-- a number in four bytes, the high ones first -/
def four (x : Int) : List Int := [x / 16777216, x / 65536 % 256, x / 256 % 256, x % 256]

theorem words (x : Int) (w : World) (h0 : 0 ≤ x) (h1 : x ≤ 4294967295) : Calls Try.prog 16 #[.int .u32 x] w fun e w' =>
    e = .returned (.slice (some ⟨w.heap.size, 0, none⟩) 4 4) ∧ w.alloc (.cells #[.int .u8 (x / 16777216), .int .u8 (x / 65536 % 256), .int .u8 (x / 256 % 256), .int .u8 (x % 256)] 5) = w' := by
  go_enter Try.func16, Try.ntmps16
  go_wp2
  go_ret
  exact ⟨rfl, rfl⟩

theorem words_own (x : Int) (w : World) (base : Nat) (hb : base ≤ w.heap.size) :
    (w.alloc (.cells #[.int .u8 (x / 16777216), .int .u8 (x / 65536 % 256), .int .u8 (x / 256 % 256), .int .u8 (x % 256)] 5)).ownsRow base 5 1 (.slice (some ⟨w.heap.size, 0, none⟩) 4 4) 4 (nums .u8 (four x)) :=
  own_lit w base 5 .u8 (four x) hb (by simp [four])

theorem blob (x y : Int) (w : World) (h0 : 0 ≤ x) (h1 : x ≤ 4294967295) (g0 : 0 ≤ y) (g1 : y ≤ 4294967295) : Calls Try.prog 15 #[.int .u32 x, .int .u32 y] w fun e w' =>
    e = .returned (.slice (some ⟨w.heap.size, 0, none⟩) 8 8) ∧
    (w.alloc (.cells #[.int .u8 (x / 16777216), .int .u8 (x / 65536 % 256), .int .u8 (x / 256 % 256), .int .u8 (x % 256), .int .u8 (y / 16777216), .int .u8 (y / 65536 % 256), .int .u8 (y / 256 % 256), .int .u8 (y % 256)] 5)).alloc
      (.cells #[.int .u32 x, .int .u32 y] 51) = w' := by
  have hmk : ∀ w, (Instr.makeSlice 26 (.int .i64 8) (.int .i64 8)).run Try.prog w = .ok (.slice (some ⟨w.heap.size, 0, none⟩) 8 8) (w.alloc (.cells #[.int .u8 0, .int .u8 0, .int .u8 0, .int .u8 0, .int .u8 0, .int .u8 0, .int .u8 0, .int .u8 0] 5)) := fun _ => by kernel_rfl
  go_enter Try.func15, Try.ntmps15
  go_wp2
  go_end0
  go_wp2
  go_end0
  go_wp2
  go_ret
  exact ⟨rfl, rfl⟩

theorem superblob (x y z : Int) (w : World) (h0 : 0 ≤ x) (h1 : x ≤ 4294967295) (g0 : 0 ≤ y) (g1 : y ≤ 4294967295) (k0 : 0 ≤ z) (k1 : z ≤ 4294967295) : Calls Try.prog 17 #[.int .u32 x, .int .u32 y, .int .u32 z] w fun e w' =>
    e = .returned (.slice (some ⟨w.heap.size, 0, none⟩) 12 12) ∧
    (w.alloc (.cells #[.int .u8 (x / 16777216), .int .u8 (x / 65536 % 256), .int .u8 (x / 256 % 256), .int .u8 (x % 256), .int .u8 (y / 16777216), .int .u8 (y / 65536 % 256), .int .u8 (y / 256 % 256), .int .u8 (y % 256), .int .u8 (z / 16777216), .int .u8 (z / 65536 % 256), .int .u8 (z / 256 % 256), .int .u8 (z % 256)] 5)).alloc
      (.cells #[.int .u32 x, .int .u32 y, .int .u32 z] 56) = w' := by
  have hmk : ∀ w, (Instr.makeSlice 26 (.int .i64 12) (.int .i64 12)).run Try.prog w = .ok (.slice (some ⟨w.heap.size, 0, none⟩) 12 12) (w.alloc (.cells #[.int .u8 0, .int .u8 0, .int .u8 0, .int .u8 0, .int .u8 0, .int .u8 0, .int .u8 0, .int .u8 0, .int .u8 0, .int .u8 0, .int .u8 0, .int .u8 0] 5)) := fun _ => by kernel_rfl
  go_enter Try.func17, Try.ntmps17
  go_wp2
  go_end0
  go_wp2
  go_end0
  go_wp2
  go_end0
  go_wp2
  go_ret
  exact ⟨rfl, rfl⟩

theorem same (A0 A1 : Option Addr) (n0 n1 c0 c1 : Nat) (xs : List Int) (w : World) (hr0 : ReadsInt w .u8 A0 n0 xs) (hr1 : ReadsInt w .u8 A1 n1 xs) :
    Calls Try.prog 14 #[.slice A0 n0 c0, .slice A1 n1 c1] w fun e w' => e = .returned (.bool true) ∧ w = w' := by
  have k0 := string_of_reads (P := Try.prog) (c := c0) Try.underlying26 Try.underlying5 Try.underlying9 hr0
  have k1 := string_of_reads (P := Try.prog) (c := c1) Try.underlying26 Try.underlying5 Try.underlying9 hr1
  clear hr0 hr1
  go_enter Try.func14, Try.ntmps14
  go_wp2
  go_ret
  exact ⟨by simp, rfl⟩

end Go.Proofs.Ytcblhkcdolaigaa.BlobA

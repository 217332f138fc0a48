/- regexp.QuoteMeta at a text of letters, digits and underscores: the text. -/
import Derived.Test.YtopmkiadoacipaaEnv
import Derived.Test.YtopmkiadoacipaaEach
import Derived.Test.YtopmkiadoacipaaSpecial
namespace Go.Proofs.Ytopmkiadoacipaa.Xp
open Go.RowKit Go.Proofs.YtopmkiadoacipaaW.PrintWords Go.Proofs.Ytopmkiadoacipaa.PFnExpandMade Go.Proofs.Ytopmkiadoacipaa.Tab

set_option maxHeartbeats 4000000 in
set_option maxRecDepth 100000 in
theorem special_is (c : Int) (w : World) (hc : aln c = true) : Calls Try.prog 43 #[.int .u8 c] w fun e w' => e = .returned (.bool false) ∧ Below w.heap.size w w' := by
  have h : (97 ≤ c ∧ c ≤ 122) ∨ (65 ≤ c ∧ c ≤ 90) ∨ (48 ≤ c ∧ c ≤ 57) ∨ c = 95 := by simpa [aln] using hc
  have h128 : decide (c < 128) = true := decide_eq_true (by omega)
  have HC := Aside0.mk h
  clear hc h
  go_enter Try.func43, Try.ntmps43
  go_wp2_with fail
  (with_reducible refine (bytes_is _).mono ?_)
  rintro e w1 ⟨rfl, b1⟩
  have HB := Aside0.mk b1
  clear b1
  simp only [Tb]
  clear h128
  have x0 : ∀ w : World, (Instr.index 81 (.agg #[.int .u8 0, .int .u8 0, .int .u8 0, .int .u8 0, .int .u8 4, .int .u8 0, .int .u8 0, .int .u8 0, .int .u8 4, .int .u8 4, .int .u8 4, .int .u8 164, .int .u8 160, .int .u8 160, .int .u8 36, .int .u8 8]) (.int .u8 0)).run Try.prog w = .ok (.int .u8 0) w := fun _ => by kernel_rfl
  have x1 : ∀ w : World, (Instr.index 81 (.agg #[.int .u8 0, .int .u8 0, .int .u8 0, .int .u8 0, .int .u8 4, .int .u8 0, .int .u8 0, .int .u8 0, .int .u8 4, .int .u8 4, .int .u8 4, .int .u8 164, .int .u8 160, .int .u8 160, .int .u8 36, .int .u8 8]) (.int .u8 1)).run Try.prog w = .ok (.int .u8 0) w := fun _ => by kernel_rfl
  have x2 : ∀ w : World, (Instr.index 81 (.agg #[.int .u8 0, .int .u8 0, .int .u8 0, .int .u8 0, .int .u8 4, .int .u8 0, .int .u8 0, .int .u8 0, .int .u8 4, .int .u8 4, .int .u8 4, .int .u8 164, .int .u8 160, .int .u8 160, .int .u8 36, .int .u8 8]) (.int .u8 2)).run Try.prog w = .ok (.int .u8 0) w := fun _ => by kernel_rfl
  have x3 : ∀ w : World, (Instr.index 81 (.agg #[.int .u8 0, .int .u8 0, .int .u8 0, .int .u8 0, .int .u8 4, .int .u8 0, .int .u8 0, .int .u8 0, .int .u8 4, .int .u8 4, .int .u8 4, .int .u8 164, .int .u8 160, .int .u8 160, .int .u8 36, .int .u8 8]) (.int .u8 3)).run Try.prog w = .ok (.int .u8 0) w := fun _ => by kernel_rfl
  have x4 : ∀ w : World, (Instr.index 81 (.agg #[.int .u8 0, .int .u8 0, .int .u8 0, .int .u8 0, .int .u8 4, .int .u8 0, .int .u8 0, .int .u8 0, .int .u8 4, .int .u8 4, .int .u8 4, .int .u8 164, .int .u8 160, .int .u8 160, .int .u8 36, .int .u8 8]) (.int .u8 4)).run Try.prog w = .ok (.int .u8 4) w := fun _ => by kernel_rfl
  have x5 : ∀ w : World, (Instr.index 81 (.agg #[.int .u8 0, .int .u8 0, .int .u8 0, .int .u8 0, .int .u8 4, .int .u8 0, .int .u8 0, .int .u8 0, .int .u8 4, .int .u8 4, .int .u8 4, .int .u8 164, .int .u8 160, .int .u8 160, .int .u8 36, .int .u8 8]) (.int .u8 5)).run Try.prog w = .ok (.int .u8 0) w := fun _ => by kernel_rfl
  have x6 : ∀ w : World, (Instr.index 81 (.agg #[.int .u8 0, .int .u8 0, .int .u8 0, .int .u8 0, .int .u8 4, .int .u8 0, .int .u8 0, .int .u8 0, .int .u8 4, .int .u8 4, .int .u8 4, .int .u8 164, .int .u8 160, .int .u8 160, .int .u8 36, .int .u8 8]) (.int .u8 6)).run Try.prog w = .ok (.int .u8 0) w := fun _ => by kernel_rfl
  have x7 : ∀ w : World, (Instr.index 81 (.agg #[.int .u8 0, .int .u8 0, .int .u8 0, .int .u8 0, .int .u8 4, .int .u8 0, .int .u8 0, .int .u8 0, .int .u8 4, .int .u8 4, .int .u8 4, .int .u8 164, .int .u8 160, .int .u8 160, .int .u8 36, .int .u8 8]) (.int .u8 7)).run Try.prog w = .ok (.int .u8 0) w := fun _ => by kernel_rfl
  have x8 : ∀ w : World, (Instr.index 81 (.agg #[.int .u8 0, .int .u8 0, .int .u8 0, .int .u8 0, .int .u8 4, .int .u8 0, .int .u8 0, .int .u8 0, .int .u8 4, .int .u8 4, .int .u8 4, .int .u8 164, .int .u8 160, .int .u8 160, .int .u8 36, .int .u8 8]) (.int .u8 8)).run Try.prog w = .ok (.int .u8 4) w := fun _ => by kernel_rfl
  have x9 : ∀ w : World, (Instr.index 81 (.agg #[.int .u8 0, .int .u8 0, .int .u8 0, .int .u8 0, .int .u8 4, .int .u8 0, .int .u8 0, .int .u8 0, .int .u8 4, .int .u8 4, .int .u8 4, .int .u8 164, .int .u8 160, .int .u8 160, .int .u8 36, .int .u8 8]) (.int .u8 9)).run Try.prog w = .ok (.int .u8 4) w := fun _ => by kernel_rfl
  have x10 : ∀ w : World, (Instr.index 81 (.agg #[.int .u8 0, .int .u8 0, .int .u8 0, .int .u8 0, .int .u8 4, .int .u8 0, .int .u8 0, .int .u8 0, .int .u8 4, .int .u8 4, .int .u8 4, .int .u8 164, .int .u8 160, .int .u8 160, .int .u8 36, .int .u8 8]) (.int .u8 10)).run Try.prog w = .ok (.int .u8 4) w := fun _ => by kernel_rfl
  have x11 : ∀ w : World, (Instr.index 81 (.agg #[.int .u8 0, .int .u8 0, .int .u8 0, .int .u8 0, .int .u8 4, .int .u8 0, .int .u8 0, .int .u8 0, .int .u8 4, .int .u8 4, .int .u8 4, .int .u8 164, .int .u8 160, .int .u8 160, .int .u8 36, .int .u8 8]) (.int .u8 11)).run Try.prog w = .ok (.int .u8 164) w := fun _ => by kernel_rfl
  have x12 : ∀ w : World, (Instr.index 81 (.agg #[.int .u8 0, .int .u8 0, .int .u8 0, .int .u8 0, .int .u8 4, .int .u8 0, .int .u8 0, .int .u8 0, .int .u8 4, .int .u8 4, .int .u8 4, .int .u8 164, .int .u8 160, .int .u8 160, .int .u8 36, .int .u8 8]) (.int .u8 12)).run Try.prog w = .ok (.int .u8 160) w := fun _ => by kernel_rfl
  have x13 : ∀ w : World, (Instr.index 81 (.agg #[.int .u8 0, .int .u8 0, .int .u8 0, .int .u8 0, .int .u8 4, .int .u8 0, .int .u8 0, .int .u8 0, .int .u8 4, .int .u8 4, .int .u8 4, .int .u8 164, .int .u8 160, .int .u8 160, .int .u8 36, .int .u8 8]) (.int .u8 13)).run Try.prog w = .ok (.int .u8 160) w := fun _ => by kernel_rfl
  have x14 : ∀ w : World, (Instr.index 81 (.agg #[.int .u8 0, .int .u8 0, .int .u8 0, .int .u8 0, .int .u8 4, .int .u8 0, .int .u8 0, .int .u8 0, .int .u8 4, .int .u8 4, .int .u8 4, .int .u8 164, .int .u8 160, .int .u8 160, .int .u8 36, .int .u8 8]) (.int .u8 14)).run Try.prog w = .ok (.int .u8 36) w := fun _ => by kernel_rfl
  have x15 : ∀ w : World, (Instr.index 81 (.agg #[.int .u8 0, .int .u8 0, .int .u8 0, .int .u8 0, .int .u8 4, .int .u8 0, .int .u8 0, .int .u8 0, .int .u8 4, .int .u8 4, .int .u8 4, .int .u8 164, .int .u8 160, .int .u8 160, .int .u8 36, .int .u8 8]) (.int .u8 15)).run Try.prog w = .ok (.int .u8 8) w := fun _ => by kernel_rfl
  rcases HC.out with h | h | h | h
  · clear HC
    obtain rfl | rfl | rfl | rfl | rfl | rfl | rfl | rfl | rfl | rfl | rfl | rfl | rfl | rfl | rfl | rfl | rfl | rfl | rfl | rfl | rfl | rfl | rfl | rfl | rfl | rfl := (show c = 97 ∨ c = 98 ∨ c = 99 ∨ c = 100 ∨ c = 101 ∨ c = 102 ∨ c = 103 ∨ c = 104 ∨ c = 105 ∨ c = 106 ∨ c = 107 ∨ c = 108 ∨ c = 109 ∨ c = 110 ∨ c = 111 ∨ c = 112 ∨ c = 113 ∨ c = 114 ∨ c = 115 ∨ c = 116 ∨ c = 117 ∨ c = 118 ∨ c = 119 ∨ c = 120 ∨ c = 121 ∨ c = 122 from by omega)
    all_goals (go_wp2_with fail; go_ret; exact ⟨rfl, HB.out⟩)
  · clear HC
    obtain rfl | rfl | rfl | rfl | rfl | rfl | rfl | rfl | rfl | rfl | rfl | rfl | rfl | rfl | rfl | rfl | rfl | rfl | rfl | rfl | rfl | rfl | rfl | rfl | rfl | rfl := (show c = 65 ∨ c = 66 ∨ c = 67 ∨ c = 68 ∨ c = 69 ∨ c = 70 ∨ c = 71 ∨ c = 72 ∨ c = 73 ∨ c = 74 ∨ c = 75 ∨ c = 76 ∨ c = 77 ∨ c = 78 ∨ c = 79 ∨ c = 80 ∨ c = 81 ∨ c = 82 ∨ c = 83 ∨ c = 84 ∨ c = 85 ∨ c = 86 ∨ c = 87 ∨ c = 88 ∨ c = 89 ∨ c = 90 from by omega)
    all_goals (go_wp2_with fail; go_ret; exact ⟨rfl, HB.out⟩)
  · clear HC
    obtain rfl | rfl | rfl | rfl | rfl | rfl | rfl | rfl | rfl | rfl := (show c = 48 ∨ c = 49 ∨ c = 50 ∨ c = 51 ∨ c = 52 ∨ c = 53 ∨ c = 54 ∨ c = 55 ∨ c = 56 ∨ c = 57 from by omega)
    all_goals (go_wp2_with fail; go_ret; exact ⟨rfl, HB.out⟩)
  · subst h
    clear HC
    go_wp2_with fail
    go_ret
    exact ⟨rfl, HB.out⟩

set_option maxHeartbeats 4000000 in
set_option maxRecDepth 100000 in
theorem quote_is (s : ByteArray) (w : World) (hs : s.size ≤ 281474976710656) (ha : ∀ j : Int, 0 ≤ j → j < s.size → aln (bt s j) = true) : Calls Try.prog 40 #[.string s] w fun e w' => e = .returned (.string s) ∧ Below w.heap.size w w' := by
  have HA := Aside0.mk ha
  clear ha
  go_enter Try.func40, Try.ntmps40
  go_wp2_with fail
  go_loopw [3] (fun v3 wr => ∃ k : Nat, v3 = .int .i64 k ∧ k ≤ s.size ∧ Below w.heap.size w wr) (fun v3 _ => s.size - (intOf v3).toNat)
  case atStart => exact ⟨0, rfl, by omega, Below.refl _ _⟩
  case round =>
    obtain ⟨k, rfl, hk, hB⟩ := hrel
    have HB := Aside0.mk hB
    clear hB
    by_cases hk0 : k < s.size
    · have d0 : decide ((k : Int) < (s.size : Int)) = true := decide_eq_true (by omega)
      obtain ⟨c, hc⟩ : ∃ c : Int, c = bt s (k : Int) := ⟨_, rfl⟩
      have hca : aln c = true := by rw [hc]; exact HA.out _ (by omega) (by omega)
      have p3 : 0 ≤ (k : Int) := by omega
      have hx3 : ∀ h : k < s.size, ((s[k]'h).toNat : Int) = c := fun h => by rw [hc]; simpa using bt_at s (k : Int) (by simpa using h)
      have HCA := Aside0.mk hca
      clear hca hc
      go_wp2_with (go_at_call 43; (with_reducible refine (special_is c _ HCA.out).mono ?_); rintro e w1 ⟨rfl, b1⟩; have HB1 := Aside0.mk (below_then HB.out HB.out.size b1))
      go_roundw
      case rel => exact ⟨k + 1, by go_num, by omega, HB1.out⟩
      case measure => simp [intOf]; omega
    · obtain rfl : k = s.size := by omega
      have d0 : decide ((s.size : Int) < (s.size : Int)) = false := decide_eq_false (by omega)
      have d1 : decide ((s.size : Int) ≥ (s.size : Int)) = true := decide_eq_true (by omega)
      go_wp2_with fail
      go_ret
      exact ⟨rfl, HB.out⟩

end Go.Proofs.Ytopmkiadoacipaa.Xp

/- Look-ups that find an entry; the methods Usage and Eval of a condition. -/
import Derived.Test.YtkibblabjgoddaaCondOne
namespace Go.Proofs.Ytkibblabjgoddaa.Tab
open Go.RowKit Go.Proofs.YtkibblabjgoddaaW.PrintWords Go.Maps Go.WideMaps

theorem dat_inj {p q : Bool × Nat} (h : dat p = dat q) : p = q := by
  obtain ⟨a, b⟩ := p
  obtain ⟨c, d⟩ := q
  simp only [dat, DataW.agg.injEq, List.cons.injEq, DataW.lit.injEq, Lit.bool.injEq, Lit.int.injEq, true_and, and_true] at h
  obtain ⟨rfl, h⟩ := h
  have : b = d := by omega
  subst this
  rfl

theorem R54_dat {v : Value} {p : Bool × Nat} {ps : List MemPlace} (h : R54 v = some (dat p, ps)) : ∃ cs : Array Value, v = .iface 52 (.agg cs) ∧ cs = #[.bool p.1, .map (some p.2)] := by
  unfold R54 at h
  split at h
  · simp [dat] at h
  · rename_i cs
    split at h
    · rename_i x b hl
      simp only [Option.some.injEq, Prod.mk.injEq] at h
      have := dat_inj h.1
      subst this
      exact ⟨cs, rfl, Array.ext' (by simpa using hl)⟩
    · cases h
  · cases h

theorem MapE.look_some {w : World} {b n : Nat} {g : ByteArray → Option (Bool × Nat)} (h : MapE w b n g) (s : ByteArray) (hs : s.size ≤ maxLen) (p : Bool × Nat) (hg : g s = some p) :
    (Instr.lookup 48 (.map (some b)) (.string s) false).run Try.prog w = .ok (.iface 52 (.agg #[.bool p.1, .map (some p.2)])) w := by
  obtain ⟨D, h, hf⟩ := h
  obtain ⟨v, ps, hrun, hv⟩ := h.lookup law9 Try.underlying48 (show (zeroValue 54).run Try.prog w = .ok .nilIface w from by kernel_rfl) (show R54 .nilIface = some (.nil, []) from rfl) (keyOf_string_mk Try.underlying9 (s := s) hs)
  have e : D.atKey (ky s) .nil = ((g s).map dat).getD .nil := (hf s).1 .nil
  rw [hg] at e
  rw [show D.atKey (.string s.data.toList) .nil = dat p from e] at hv
  obtain ⟨cs, rfl, rfl⟩ := R54_dat hv
  exact hrun

theorem MapB.look {w : World} {b n : Nat} {f : ByteArray → Option Bool} (h : MapB w b n f) (s : ByteArray) (hs : s.size ≤ maxLen) :
    (Instr.lookup 41 (.map (some b)) (.string s) false).run Try.prog w = .ok (.bool ((f s).getD false)) w := by
  obtain ⟨D, h, hf⟩ := h
  obtain ⟨v, ps, hrun, hv⟩ := h.lookup law9 Try.underlying41 (show (zeroValue 4).run Try.prog w = .ok (.bool false) w from by kernel_rfl) (plainElem_bool Try.underlying4 false) (keyOf_string_mk Try.underlying9 (s := s) hs)
  have e : D.atKey (ky s) (.lit (.bool false)) = (((f s).map fun m => .lit (.bool m)).getD (.lit (.bool false)) : DataW Unit) := (hf s).1 _
  have e2 : D.atKey (ky s) (.lit (.bool false)) = .lit (.bool ((f s).getD false)) := by
    rw [e]; cases f s <;> rfl
  rw [show D.atKey (.string s.data.toList) (.lit (.bool false)) = .lit (.bool ((f s).getD false)) from e2] at hv
  obtain ⟨c, rfl⟩ := invV4 _ _ hv
  rw [plainElem_bool Try.underlying4 c] at hv
  simp only [Option.some.injEq, Prod.mk.injEq, DataW.lit.injEq, Lit.bool.injEq] at hv
  rw [hv.1] at hrun
  exact hrun

set_option maxHeartbeats 8000000 in
set_option maxRecDepth 100000 in
theorem usage_is (x : Bool) (b : Nat) (w : World) : Calls Try.prog 34 #[.agg #[.bool x, .map (some b)]] w fun e w' => (∃ a : Nat, e = .returned (.pointer (some ⟨a, 0, none⟩)) ∧ w'.cell? ⟨a, 1, none⟩ = some (.bool x)) ∧ Below w.heap.size w w' := by
  have hu52 := Try.underlying52
  have hu67 := Try.underlying67
  go_enter Try.func34, Try.ntmps34
  go_wp2_with fail
  go_ret
  have hz : (w.alloc (.cells #[.bool x, .map (some b)] 52)).heap.size = w.heap.size + 1 := by simp
  have hb1 : Below w.heap.size w (w.alloc (.cells #[.bool x, .map (some b)] 52)) := (Below.refl _ w).alloc (Nat.le_refl _) _
  refine ⟨⟨w.heap.size + 1, rfl, ?_⟩, hb1.alloc hb1.size _⟩
  rw [World.cell?_alloc_at _ _ _ _ hz.symm]; rfl

set_option maxHeartbeats 8000000 in
set_option maxRecDepth 100000 in
theorem eval_is (x : Bool) (b n : Nat) (f : ByteArray → Option Bool) (q : Value) (s : ByteArray) (w : World) (hM : MapB w b n f) (hs : s.size ≤ maxLen) :
    Calls Try.prog 33 #[.agg #[.bool x, .map (some b)], q, .string s] w fun e w' => e = .returned (.tuple #[.bool ((f s).getD false), .nilIface]) ∧ Below w.heap.size w w' := by
  have hu52 := Try.underlying52
  have hl := (hM.kept (World.grownBy_alloc w (.cells #[.bool x, .map (some b)] 52) none) (by simp)).look s hs
  clear hM
  go_enter Try.func33, Try.ntmps33
  go_wp2_with fail
  go_ret2
  exact ⟨rfl, (Below.refl _ w).alloc (Nat.le_refl _) _⟩

end Go.Proofs.Ytkibblabjgoddaa.Tab

/- The engine's map of conditions, and the walk of ZZConditionsActive where no condition is asked. -/
import Derived.Test.YtkibblabjgoddaaTab
namespace Go.Proofs.Ytkibblabjgoddaa.Tab
open Go.RowKit Go.Proofs.YtkibblabjgoddaaW.PrintWords Go.Maps Go.WideMaps

/-- a condition as data: has it suffixes, and the block of what it holds -/
def dat (p : Bool × Nat) : DataW Unit := .agg [.lit (.bool p.1), .lit (.int .i64 (p.2 : Int))]

/-- how a condition's value reads -/
def R54 (v : Value) : Option (DataW Unit × List MemPlace) :=
  match v with
  | .nilIface => some (.nil, [])
  | .iface 52 (.agg cs) => (match cs.toList with | [.bool x, .map (some b)] => some (dat (x, b), []) | _ => none)
  | _ => none

/-- block b is the engine's map that holds g -/
def MapE (w : World) (b n : Nat) (g : ByteArray → Option (Bool × Nat)) : Prop :=
  ∃ D : DataW Unit, w.ownsMap Try.prog 9 R54 b n D ∧ Says D (fun s => (g s).map dat)

theorem MapE.made (w : World) : MapE (w.alloc (.map #[] 0)) w.heap.size 0 (fun _ => none) := ⟨.map [], World.ownsMap_made _ _ _ _, says_made⟩

theorem MapE.lt {w : World} {b n : Nat} {g : ByteArray → Option (Bool × Nat)} (h : MapE w b n g) : b < w.heap.size := by
  obtain ⟨D, h, _⟩ := h
  exact h.lt

theorem MapE.kept {w w' : World} {row : Option Nat} {b n : Nat} {g : ByteArray → Option (Bool × Nat)} (h : MapE w b n g) (hg : w.grownBy w' row) (hne : some b ≠ row) : MapE w' b n g := by
  obtain ⟨D, h, h2⟩ := h
  exact ⟨D, h.kept hg hne, h2⟩

theorem MapE.store {w : World} {b n : Nat} {g : ByteArray → Option (Bool × Nat)} (h : MapE w b n g) (hn : n ≤ 281474976710656) (s : ByteArray) (x : Bool) (bb : Nat) (hs : s.size ≤ maxLen) :
    ∃ w', (Instr.mapUpdate 48 (.map (some b)) (.string s) (.iface 52 (.agg #[.bool x, .map (some bb)]))).run Try.prog w = .ok () w' ∧ MapE w' b (n + 1) (fun y => if y = s then some (x, bb) else g y) ∧ w.grownBy w' (some b) := by
  obtain ⟨D, h, hf⟩ := h
  obtain ⟨w', hrun, hown, hg⟩ := h.update law9 Try.underlying48 (by unfold maxLen; omega) (keyOf_string_mk Try.underlying9 (s := s) hs) (show R54 (.iface 52 (.agg #[.bool x, .map (some bb)])) = some (dat (x, bb), []) from rfl)
  have hsay := says_put hf h.isMap s (dat (x, bb))
  refine ⟨w', hrun, ⟨_, hown, fun y => ?_⟩, hg⟩
  have := hsay y
  by_cases e : y = s
  · simp only [e, if_true] at this ⊢; exact this
  · simp only [e, if_false] at this ⊢; exact this

theorem invK9 : ∀ key kl, keyOf Try.prog 9 key = some kl → ∃ x : ByteArray, key = .string x := by
  intro key kl h
  rw [keyOf_string Try.underlying9] at h
  cases key <;> simp [mapKey, Try.underlying9] at h
  exact ⟨_, rfl⟩

theorem key_of {x : ByteArray} {kl : Lit} (h : keyOf Try.prog 9 (.string x) = some kl) : x.size ≤ maxLen ∧ kl = ky x := by
  rw [keyOf_string Try.underlying9] at h
  simp [mapKey, Try.underlying9] at h
  exact ⟨h.1, h.2.symm⟩

theorem size_le {w : World} {b n : Nat} {R : Value → Option (DataW Unit × List MemPlace)} {D : DataW Unit} (h : w.ownsMap Try.prog 9 R b n D) : size D ≤ n := by
  obtain ⟨es, clock, _, _, hs, rfl⟩ := h
  simp only [size]
  rw [length_sorted]
  simpa using hs

theorem invV4 : ∀ v y, plainElem (H := Unit) Try.prog 4 v = some y → ∃ c : Bool, v = .bool c := by
  intro v y h
  unfold plainElem at h
  rw [Try.underlying4] at h
  cases v <;> simp at h
  exact ⟨_, rfl⟩

end Go.Proofs.Ytkibblabjgoddaa.Tab

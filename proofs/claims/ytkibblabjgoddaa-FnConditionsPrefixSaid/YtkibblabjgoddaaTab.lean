/- A map from texts to Bools, of the call's own, as a function of the text. -/
import Derived.Test.YtkibblabjgoddaaPFnConditionsx1
import Derived.Maps.OwnOps
import Derived.Maps.StringElems
import Derived.Maps.Views
import Derived.Maps.OwnSet
import Derived.Maps.RangeWalk
namespace Go.Proofs.Ytkibblabjgoddaa.Tab
open Go.RowKit Go.Proofs.YtkibblabjgoddaaW.PrintWords Go.Maps Go.WideMaps

theorem law9 : Keyed Try.prog 9 := string_keyed Try.underlying9

/-- the key s -/
abbrev ky (s : ByteArray) : Lit := .string s.data.toList

theorem ky_inj {a b : ByteArray} (h : ky a = ky b) : a = b := by
  injection h with h
  apply ByteArray.ext
  exact Array.ext' h

/-- what D holds at each key: d x where f has an entry -/
def Says (D : DataW Unit) (f : ByteArray → Option (DataW Unit)) : Prop :=
  ∀ s : ByteArray, (∀ zd, D.atKey (ky s) zd = (f s).getD zd) ∧ has D (ky s) = (f s).isSome

theorem says_made : Says (.map []) (fun _ => none) := fun _ => ⟨fun _ => rfl, rfl⟩

theorem says_put {D : DataW Unit} {f : ByteArray → Option (DataW Unit)} (h : Says D f) (hm : IsMap D) (s : ByteArray) (d : DataW Unit) : Says (D.put (ky s) d) (fun x => if x = s then some d else f x) := by
  intro x
  by_cases e : x = s
  · subst e
    refine ⟨fun zd => ?_, ?_⟩
    · rw [atKey_put_same hm (by simp [WideAt.IsKeyLit])]; simp
    · rw [has_put_same hm (by simp [WideAt.IsKeyLit])]; simp
  · refine ⟨fun zd => ?_, ?_⟩
    · rw [atKey_put_other (fun h => e (ky_inj h)), (h x).1]; simp [e]
    · rw [has_put_other (fun h => e (ky_inj h)), (h x).2]; simp [e]

/-- block b is a map of Bools that holds f -/
def MapB (w : World) (b n : Nat) (f : ByteArray → Option Bool) : Prop :=
  ∃ D : DataW Unit, w.ownsMap Try.prog 9 (plainElem Try.prog 4) b n D ∧ Says D (fun s => (f s).map fun m => .lit (.bool m))

theorem MapB.made (w : World) : MapB (w.alloc (.map #[] 0)) w.heap.size 0 (fun _ => none) := ⟨.map [], World.ownsMap_made _ _ _ _, says_made⟩

theorem MapB.lt {w : World} {b n : Nat} {f : ByteArray → Option Bool} (h : MapB w b n f) : b < w.heap.size := by
  obtain ⟨D, h, _⟩ := h
  exact h.lt

theorem MapB.kept {w w' : World} {row : Option Nat} {b n : Nat} {f : ByteArray → Option Bool} (h : MapB w b n f) (hg : w.grownBy w' row) (hne : some b ≠ row) : MapB w' b n f := by
  obtain ⟨D, h, h2⟩ := h
  exact ⟨D, h.kept hg hne, h2⟩

theorem MapB.store {w : World} {b n : Nat} {f : ByteArray → Option Bool} (h : MapB w b n f) (hn : n ≤ 281474976710656) (s : ByteArray) (m : Bool) (hs : s.size ≤ 281474976710656) :
    ∃ w', (Instr.mapUpdate 41 (.map (some b)) (.string s) (.bool m)).run Try.prog w = .ok () w' ∧ MapB w' b (n + 1) (fun x => if x = s then some m else f x) ∧ w.grownBy w' (some b) := by
  obtain ⟨D, h, hf⟩ := h
  obtain ⟨w', hrun, hown, hg⟩ := h.update law9 Try.underlying41 (by unfold maxLen; omega) (keyOf_string_mk Try.underlying9 (s := s) (by unfold maxLen; omega)) (plainElem_bool Try.underlying4 m)
  have hsay := says_put hf h.isMap s (.lit (.bool m))
  refine ⟨w', hrun, ⟨_, hown, fun x => ?_⟩, hg⟩
  have := hsay x
  by_cases e : x = s
  · simp only [e, if_true] at this ⊢; exact this
  · simp only [e, if_false] at this ⊢; exact this


end Go.Proofs.Ytkibblabjgoddaa.Tab

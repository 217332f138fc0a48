/- The table of variables: a map of the call's own, from names to values, as a function of the name. -/
import Derived.Test.YtopmkiadoacipaaPFnExpandMadex3
import Derived.Maps.OwnOps
import Derived.Maps.StringElems
import Derived.Maps.Views
import Derived.Maps.OwnSet
namespace Go.Proofs.Ytopmkiadoacipaa.Tab
open Go.RowKit Go.Proofs.YtopmkiadoacipaaW.PrintWords Go.Maps Go.WideMaps

theorem law9 : Keyed Try.prog 9 := string_keyed Try.underlying9
theorem zero9 (w : World) : (zeroValue 9).run Try.prog w = .ok (.string ByteArray.empty) w := by kernel_rfl

/-- block b is a map of at most n entries that holds f s at the key s -/
def MapIs (w : World) (b n : Nat) (f : ByteArray → ByteArray) : Prop :=
  ∃ D : DataW Unit, w.ownsMap Try.prog 9 (plainElem Try.prog 9) b n D ∧ IsMap D ∧ ∀ s : ByteArray, D.atKey (.string s.data.toList) (.lit (.string [])) = .lit (.string (f s).data.toList)

theorem bytes_of_list {a b : ByteArray} (h : a.data.toList = b.data.toList) : a = b := by
  apply ByteArray.ext
  exact Array.ext' h

theorem MapIs.made (w : World) : MapIs (w.alloc (.map #[] 0)) w.heap.size 0 (fun _ => ByteArray.empty) :=
  ⟨.map [], World.ownsMap_made _ _ _ _, ⟨[], rfl⟩, fun _ => rfl⟩

theorem MapIs.lt {w : World} {b n : Nat} {f : ByteArray → ByteArray} (h : MapIs w b n f) : b < w.heap.size := by
  obtain ⟨D, h, _⟩ := h
  exact h.lt

theorem MapIs.look {w : World} {b n : Nat} {f : ByteArray → ByteArray} (h : MapIs w b n f) (s : ByteArray) (hs : s.size ≤ 281474976710656) :
    (Instr.lookup 44 (.map (some b)) (.string s) false).run Try.prog w = .ok (.string (f s)) w := by
  obtain ⟨D, h, _, hf⟩ := h
  obtain ⟨v, ps, hrun, hv⟩ := h.lookup law9 Try.underlying44 (zero9 w) (plainElem_string Try.underlying9 (s := ByteArray.empty) (by decide)) (keyOf_string_mk Try.underlying9 (s := s) (by unfold maxLen; omega))
  obtain ⟨c, rfl, hc, _⟩ := plainElem_string_inv Try.underlying9 hv
  have e := hf s
  simp only [Prod.mk.injEq] at hc
  have e2 := hc.1.symm.trans e
  injection e2 with e2
  injection e2 with e2
  rw [bytes_of_list e2] at hrun
  exact hrun

theorem MapIs.store {w : World} {b n : Nat} {f : ByteArray → ByteArray} (h : MapIs w b n f) (hn : n ≤ 281474976710656) (s v : ByteArray) (hs : s.size ≤ 281474976710656) (hv : v.size ≤ 281474976710656) :
    ∃ w', (Instr.mapUpdate 44 (.map (some b)) (.string s) (.string v)).run Try.prog w = .ok () w' ∧ MapIs w' b (n + 1) (fun x => if x = s then v else f x) ∧ w.grownBy w' (some b) := by
  obtain ⟨D, h, hm, hf⟩ := h
  obtain ⟨w', hrun, hown, hg⟩ := h.update law9 Try.underlying44 (by unfold maxLen; omega) (keyOf_string_mk Try.underlying9 (s := s) (by unfold maxLen; omega)) (plainElem_string Try.underlying9 (s := v) (by unfold maxLen; omega))
  refine ⟨w', hrun, ⟨_, hown, hown.isMap, fun x => ?_⟩, hg⟩
  by_cases e : x = s
  · subst e
    show (D.put _ _).atKey _ _ = .lit (.string (if x = x then v else f x).data.toList)
    rw [if_pos rfl, atKey_put_same hm (by simp [WideAt.IsKeyLit])]
  · show (D.put _ _).atKey _ _ = .lit (.string (if x = s then v else f x).data.toList)
    rw [if_neg e, atKey_put_other (fun h => e (bytes_of_list (by injection h))), hf x]

theorem MapIs.kept {w w' : World} {b n B : Nat} {f : ByteArray → ByteArray} (h : MapIs w b n f) (hb : Below B w w') (hlt : b < B) : MapIs w' b n f := by
  obtain ⟨D, ⟨es, clock, he, F, hs, hD⟩, h2⟩ := h
  exact ⟨D, ⟨es, clock, (hb.block b hlt).trans he, F, hs, hD⟩, h2⟩

/-- what the table holds behind k names -/
def tab (names values : List ByteArray) : Nat → ByteArray → ByteArray
  | 0 => fun _ => ByteArray.empty
  | k + 1 => fun x => if x = names.getD k ByteArray.empty then values.getD k ByteArray.empty else tab names values k x

end Go.Proofs.Ytopmkiadoacipaa.Tab

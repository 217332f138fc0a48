/- Slices of whole numbers and of Bools that came in, opened: their elements as lists that are read. -/
import Derived.Test.YtkibblabjgoddaaRows
import Derived.Test.YtkibblabjgoddaaWWords
import Derived.SliceStrings
import Derived.ProofKit
import Derived.RowKit
import Derived.ChangeSlices
import Derived.Deep.Grids
namespace Go.Proofs.Ytkibblabjgoddaa.ListsIn
open Go.RowKit Go.ChangeShapes Go.WideShapes Go.ChangeAt Go.Deep Go.Proofs.YtkibblabjgoddaaW.PrintWords

theorem ints_in {H : Type} {enc : TypeId × Value → H} {P : Program} {W : World} {t e : TypeId} {d : DataW H} {p : List MemPlace} {a : Option Addr} {len cap : Nat}
    (ht : P.underlying t = some (.slice e)) (he : P.underlying e = some (.int .i64)) (hc : P.cellsOf e = 1) (h : DataW.Trod enc P W 0 (fun _ => true) true t (.slice a len cap) d p) :
    ∃ l : List Int, len = l.length ∧ ReadsInt W .i64 a l.length l ∧ l.length ≤ cap ∧ True := by
  obtain ⟨fuel, hf⟩ := h
  rcases open_ints ht he hc hf with ⟨hcs, _⟩ | ⟨x, l, c, zs, hcs, _, hl, hm, hz, _, hcell, hwz⟩
  · simp [Value.cells] at hcs
    obtain ⟨rfl, rfl, rfl⟩ := hcs
    exact ⟨[], rfl, ReadsInt.nil _ _, Nat.le_refl _, trivial⟩
  · simp [Value.cells] at hcs
    obtain ⟨rfl, rfl, rfl⟩ := hcs
    obtain ⟨l, e1, h1, _, _, h4⟩ := ReadsInt.ofRowC (k := .i64) (w := W) (a := some x) (len := len) (cap := cap) (zs := zs) (.inr ⟨_, rfl, hl, hm, by simpa using hz, hcell, hwz⟩)
    exact ⟨l, e1, h1, h4, trivial⟩

theorem bools_in {H : Type} {enc : TypeId × Value → H} {P : Program} {W : World} {t e : TypeId} {d : DataW H} {p : List MemPlace} {a : Option Addr} {len cap : Nat}
    (ht : P.underlying t = some (.slice e)) (he : P.underlying e = some .bool) (hc : P.cellsOf e = 1) (h : DataW.Trod enc P W 0 (fun _ => true) true t (.slice a len cap) d p) :
    ∃ l : List Bool, len = l.length ∧ ReadsOf Value.bool false W a l.length l ∧ l.length ≤ cap ∧ True := by
  obtain ⟨fuel, hf⟩ := h
  rcases open_bools ht he hc hf with ⟨hcs, _⟩ | ⟨x, l, c, B, hcs, _, hl, hm, _, hcell⟩
  · simp [Value.cells] at hcs
    obtain ⟨rfl, rfl, rfl⟩ := hcs
    exact ⟨[], rfl, ReadsOf.nil _ _ _, Nat.le_refl _, trivial⟩
  · simp [Value.cells] at hcs
    obtain ⟨rfl, rfl, rfl⟩ := hcs
    unfold maxLen at hm
    refine ⟨(List.range len).map B, by simp, ⟨rfl, by simp; omega, fun h => ⟨x, rfl, fun j hj => ?_⟩⟩, by simpa using hl, trivial⟩
    have hj' : j < len := by simpa using hj
    rw [hcell j (by omega)]
    simp [List.getD_eq_getElem?_getD, hj']

end Go.Proofs.Ytkibblabjgoddaa.ListsIn

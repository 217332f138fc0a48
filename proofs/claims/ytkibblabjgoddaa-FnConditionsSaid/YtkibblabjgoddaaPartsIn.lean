/- A slice of parts that came in, opened: its elements as a list that is read, and how much they hold together. -/
import Derived.Test.YtkibblabjgoddaaRows
import Derived.Test.YtkibblabjgoddaaWWords
import Derived.SliceStrings
import Derived.ProofKit
import Derived.RowKit
import Derived.Test.YtkibblabjgoddaaPFnConditionsx0
import Derived.Deep.Slices
import Derived.ChangeArms
namespace Go.Proofs.Ytkibblabjgoddaa.PartsIn
open Go.RowKit Go.ChangeShapes Go.WideShapes Go.ChangeAt Go.Deep Go.Proofs.YtkibblabjgoddaaW.PrintWords Go.Proofs.Ytkibblabjgoddaa.PFnConditions

/-- letters and places of a list of parts -/
def wp : List S27 → Nat
  | [] => 0
  | p :: l => p.f0.size + 3 + wp l
theorem wp_length (l : List S27) : 3 * l.length ≤ wp l := by
  induction l with
  | nil => simp [wp]
  | cons s l ih => simp only [List.length_cons, wp]; omega
theorem wp_mem {l : List S27} {p : S27} (h : p ∈ l) : p.f0.size ≤ wp l := by
  induction l with
  | nil => cases h
  | cons x l ih =>
    simp only [wp]
    cases List.mem_cons.1 h with
    | inl e => subst e; omega
    | inr e => have := ih e; omega

/-- a part as data -/
def datum {H : Type} (p : S27) : DataW H := .agg [.lit (.string p.f0.data.toList), .lit (.bool p.f1)]

theorem datum_bulk {H : Type} (p : S27) : Rows.uptoBulk (H := H) (datum p) = p.f0.size + 3 := by
  simp [datum, Rows.uptoBulk, Rows.uptoBulkAll]
theorem data_bulk {H : Type} (l : List S27) : Rows.uptoBulkAll (H := H) (l.map datum) = wp l := by
  induction l with
  | nil => simp [Rows.uptoBulkAll, wp]
  | cons p l ih => simp only [List.map_cons, Rows.uptoBulkAll, wp, ih, datum_bulk]

theorem elem_in {H : Type} {enc : TypeId × Value → H} {w : World} {base : Nat} {spare : Nat → Bool} {held : Bool} {n : Nat} {cs : List Value} {x : DataW H × List MemPlace} (h : DataW.trod enc Try.prog w base spare held n 27 cs = some x) :
    ∃ p : S27, cs = [.string p.f0, .bool p.f1] ∧ x.1 = datum p := by
  obtain ⟨xs, m, _, hx, hlen, hxl, hf⟩ := DataW.trod_struct Try.underlying27 h
  have hc3 : Try.prog.cellsOf 27 = 2 := by kernel_rfl
  have hc9 : Try.prog.cellsOf 9 = 1 := by kernel_rfl
  have hc4 : Try.prog.cellsOf 4 = 1 := by kernel_rfl
  rw [hc3] at hlen
  match cs, hlen with
  | [c0, c1], _ =>
    match xs, hxl with
    | [y0, y1], _ =>
      have g0 : DataW.trod enc Try.prog w base spare held m 9 ((([c0, c1] : List Value).drop 0).take (Try.prog.cellsOf 9)) = some y0 := hf 0 _ rfl
      have g1 : DataW.trod enc Try.prog w base spare held m 4 ((([c0, c1] : List Value).drop 1).take (Try.prog.cellsOf 4)) = some y1 := hf 1 _ rfl
      rw [hc9] at g0
      rw [hc4] at g1
      obtain ⟨s, e0, d0, _⟩ := DataW.trod_string Try.underlying9 g0
      obtain ⟨b1, e1, d1⟩ := DataW.trod_bool Try.underlying4 g1
      have e0' : [c0] = [Value.string s] := e0
      have e1' : [c1] = [Value.bool b1] := e1
      simp only [List.cons.injEq, and_true] at e0' e1'
      subst e0' e1' d0 d1
      exact ⟨⟨s, b1⟩, rfl, by rw [hx]; rfl⟩

theorem parts_in {H : Type} {enc : TypeId × Value → H} {W : World} {d : DataW H} {p : List MemPlace} {a : Option Addr} {len cap : Nat}
    (h : DataW.Trod enc Try.prog W 0 (fun _ => true) true 22 (.slice a len cap) d p) :
    ∃ l : List S27, len = l.length ∧ Kd.C k27 W a l.length l ∧ l.length ≤ cap ∧ wp l ≤ Rows.uptoBulk d := by
  obtain ⟨fuel, hf⟩ := h
  have hc3 : Try.prog.cellsOf 27 = 2 := by kernel_rfl
  rcases open_slice Try.underlying22 hf with ⟨hcs, hx⟩ | ⟨x, l, c, m, n, D, Pl, hcs, _, hl, hm, hmm, hx, hi⟩
  · simp [Value.cells] at hcs
    obtain ⟨rfl, rfl, rfl⟩ := hcs
    exact ⟨[], rfl, ⟨rfl, by simp, fun h => absurd h (Nat.lt_irrefl 0)⟩, Nat.le_refl _, by simp [wp]⟩
  · simp [Value.cells] at hcs
    obtain ⟨rfl, rfl, rfl⟩ := hcs
    simp only [if_true] at hmm
    rw [hc3] at hi
    have hex : ∀ i, ∃ q : S27, i < len → D i = datum q ∧ ∃ cs', W.cells? 0 (x.add (i * 2)) 2 = some cs' ∧ cs' = [.string q.f0, .bool q.f1] := fun i => by
      by_cases hlt : i < len
      · obtain ⟨cs', h1, h2⟩ := hi i (by omega)
        obtain ⟨q, e1, e2⟩ := elem_in h2
        exact ⟨q, fun _ => ⟨e2, cs', h1, e1⟩⟩
      · exact ⟨z27, fun h => absurd h hlt⟩
    obtain ⟨f, hfq⟩ := Classical.axiomOfChoice hex
    have hlen : ((List.range len).map f).length = len := by simp
    unfold maxLen at hm
    refine ⟨(List.range len).map f, hlen.symm, ⟨rfl, by omega, fun h0 => ⟨x, rfl, fun j q hq => ?_⟩⟩, by omega, ?_⟩
    · have hj : j < len := by have := (List.getElem?_eq_some_iff.1 hq).1; omega
      obtain ⟨_, cs', h1, h2⟩ := hfq j hj
      have hqf : q = f j := by
        have := (List.getElem?_eq_some_iff.1 hq).2
        simp at this
        exact this.symm
      subst hqf
      obtain ⟨_, _, hat⟩ := World.cells?_some h1
      refine ⟨cs', by rw [h2]; rfl, by rw [h2]; exact k27_mk W (f j), fun i u hu => ?_⟩
      have hi3 : i < 2 := by have := (List.getElem?_eq_some_iff.1 hu).1; rw [h2] at this; exact this
      have e3 : x.add (j * 2 + i) = (x.add (j * 2)).add i := by first | exact (Go.Deep.add_add _ _ _).symm | exact Go.Deep.add_add _ _ _
      show W.cell? (x.add (j * 2 + i)) = some u
      rw [e3, hat i hi3, hu]
    · simp only [Prod.mk.injEq] at hx
      obtain ⟨rfl, _⟩ := hx
      simp only [Rows.uptoBulk]
      have e : (List.range len).map D = ((List.range len).map f).map (datum (H := H)) := by
        rw [List.map_map]
        apply List.map_congr_left
        intro i hi
        exact (hfq i (List.mem_range.1 hi)).1
      rw [e, data_bulk]
      omega

end Go.Proofs.Ytkibblabjgoddaa.PartsIn

/- A slice of slices of pieces that came in, opened: its elements as lists that are read, and how much they hold together. -/
import Derived.Test.YtopmkiadoacipaaStrsIn
import Derived.Test.YtopmkiadoacipaaPFnArgsExpandedx0
import Derived.Deep.Slices
import Derived.ChangeArms
namespace Go.Proofs.Ytopmkiadoacipaa.RowsIn
open Go.RowKit Go.ChangeShapes Go.WideShapes Go.ChangeAt Go.Deep Go.Proofs.YtopmkiadoacipaaW.PrintWords Go.Proofs.Ytopmkiadoacipaa.PFnArgsExpanded

/-- letters and places of a list of pieces -/
def wp : List S40 → Nat
  | [] => 0
  | p :: l => p.f0.size + 3 + wp l
/-- letters and places of a list of such lists -/
def wr : List (List S40) → Nat
  | [] => 0
  | l :: ls => wp l + 1 + wr ls
theorem wp_length (l : List S40) : 3 * l.length ≤ wp l := by
  induction l with
  | nil => simp [wp]
  | cons s l ih => simp only [List.length_cons, wp]; omega
theorem wr_length (ls : List (List S40)) : ls.length ≤ wr ls := by
  induction ls with
  | nil => simp [wr]
  | cons s l ih => simp only [List.length_cons, wr]; omega
theorem wp_mem {l : List S40} {p : S40} (h : p ∈ l) : p.f0.size ≤ wp l := by
  induction l with
  | nil => cases h
  | cons x l ih =>
    simp only [wp]
    cases List.mem_cons.1 h with
    | inl e => subst e; omega
    | inr e => have := ih e; omega
theorem wr_mem {ls : List (List S40)} {l : List S40} (h : l ∈ ls) : wp l ≤ wr ls := by
  induction ls with
  | nil => cases h
  | cons x ls ih =>
    simp only [wr]
    cases List.mem_cons.1 h with
    | inl e => subst e; omega
    | inr e => have := ih e; omega

/-- a piece as data -/
def datum {H : Type} (p : S40) : DataW H := .agg [.lit (.string p.f0.data.toList), .lit (.bool p.f1)]

theorem datum_bulk {H : Type} (p : S40) : Rows.uptoBulk (H := H) (datum p) = p.f0.size + 3 := by
  simp [datum, Rows.uptoBulk, Rows.uptoBulkAll]
theorem data_bulk {H : Type} (l : List S40) : Rows.uptoBulkAll (H := H) (l.map datum) = wp l := by
  induction l with
  | nil => simp [Rows.uptoBulkAll, wp]
  | cons p l ih => simp only [List.map_cons, Rows.uptoBulkAll, wp, ih, datum_bulk]

theorem elem_in {H : Type} {enc : TypeId × Value → H} {w : World} {base : Nat} {spare : Nat → Bool} {held : Bool} {n : Nat} {cs : List Value} {x : DataW H × List MemPlace} (h : DataW.trod enc Try.prog w base spare held n 40 cs = some x) :
    ∃ p : S40, cs = [.string p.f0, .bool p.f1] ∧ x.1 = datum p := by
  obtain ⟨xs, m, _, hx, hlen, hxl, hf⟩ := DataW.trod_struct Try.underlying40 h
  have hc3 : Try.prog.cellsOf 40 = 2 := by kernel_rfl
  have hc9 : Try.prog.cellsOf 9 = 1 := by kernel_rfl
  have hc4 : Try.prog.cellsOf 4 = 1 := by kernel_rfl
  rw [hc3] at hlen
  match cs, hlen with
  | [c0, c1], _ =>
    match xs, hxl with
    | [y0, y1], _ =>
      have g0 : DataW.trod enc Try.prog w base spare held m 9 ((([c0, c1] : List Value).drop 0).take (Try.prog.cellsOf 9)) = some y0 := hf 0 _ rfl
      have g1 : DataW.trod enc Try.prog w base spare held m 4 ((([c0, c1] : List Value).drop 1).take (Try.prog.cellsOf 4)) = some y1 := hf 1 _ rfl
      rw [hc9] at g0
      rw [hc4] at g1
      obtain ⟨s, e0, d0, _⟩ := DataW.trod_string Try.underlying9 g0
      obtain ⟨b1, e1, d1⟩ := DataW.trod_bool Try.underlying4 g1
      have e0' : [c0] = [Value.string s] := e0
      have e1' : [c1] = [Value.bool b1] := e1
      simp only [List.cons.injEq, and_true] at e0' e1'
      subst e0' e1' d0 d1
      exact ⟨⟨s, b1⟩, rfl, by rw [hx]; rfl⟩

theorem pieces_at {H : Type} {enc : TypeId × Value → H} {W : World} {fuel : Nat} {cs : List Value} {x : DataW H × List MemPlace}
    (h : DataW.trod enc Try.prog W 0 (fun _ => true) true fuel 38 cs = some x) :
    ∃ (l : List S40) (a : Option Addr) (cap : Nat), cs = [.slice a l.length cap] ∧ l.length ≤ cap ∧ Kd.C k40 W a l.length l ∧ wp l + 1 ≤ Rows.uptoBulk x.1 := by
  have hc3 : Try.prog.cellsOf 40 = 2 := by kernel_rfl
  rcases open_slice Try.underlying38 h with ⟨rfl, rfl⟩ | ⟨x, len, c, m, n, D, Pl, rfl, _, hl, hm, hmm, rfl, hi⟩
  · exact ⟨[], none, 0, rfl, Nat.le_refl _, ⟨rfl, by simp, fun h => absurd h (Nat.lt_irrefl 0)⟩, by simp [wp, Rows.uptoBulk]⟩
  · simp only [if_true] at hmm
    rw [hc3] at hi
    have hex : ∀ i, ∃ q : S40, i < len → D i = datum q ∧ ∃ cs', W.cells? 0 (x.add (i * 2)) 2 = some cs' ∧ cs' = [.string q.f0, .bool q.f1] := fun i => by
      by_cases hlt : i < len
      · obtain ⟨cs', h1, h2⟩ := hi i (by omega)
        obtain ⟨q, e1, e2⟩ := elem_in h2
        exact ⟨q, fun _ => ⟨e2, cs', h1, e1⟩⟩
      · exact ⟨z40, fun h => absurd h hlt⟩
    obtain ⟨f, hfq⟩ := Classical.axiomOfChoice hex
    have hlen : ((List.range len).map f).length = len := by simp
    unfold maxLen at hm
    refine ⟨(List.range len).map f, some x, c, by rw [hlen], by omega, ⟨rfl, by omega, fun h0 => ⟨x, rfl, fun j q hq => ?_⟩⟩, ?_⟩
    · have hj : j < len := by have := (List.getElem?_eq_some_iff.1 hq).1; omega
      obtain ⟨_, cs', h1, h2⟩ := hfq j hj
      have hqf : q = f j := by
        have := (List.getElem?_eq_some_iff.1 hq).2
        simp at this
        exact this.symm
      subst hqf
      obtain ⟨_, _, hat⟩ := World.cells?_some h1
      refine ⟨cs', by rw [h2]; rfl, by rw [h2]; exact k40_mk W (f j), fun i u hu => ?_⟩
      have hi3 : i < 2 := by have := (List.getElem?_eq_some_iff.1 hu).1; rw [h2] at this; exact this
      have e3 : x.add (j * 2 + i) = (x.add (j * 2)).add i := by first | exact (Go.Deep.add_add _ _ _).symm | exact Go.Deep.add_add _ _ _
      show W.cell? (x.add (j * 2 + i)) = some u
      rw [e3, hat i hi3, hu]
    · simp only [Rows.uptoBulk]
      have e : (List.range len).map D = ((List.range len).map f).map (datum (H := H)) := by
        rw [List.map_map]
        apply List.map_congr_left
        intro i hi
        exact (hfq i (List.mem_range.1 hi)).1
      rw [e, data_bulk]
      omega

theorem rows_bulk {H : Type} (n : Nat) (D : Nat → DataW H) (f : Nat → List S40) (h : ∀ i, i < n → wp (f i) + 1 ≤ Rows.uptoBulk (D i)) : wr ((List.range n).map f) ≤ Rows.uptoBulkAll ((List.range n).map D) := by
  have key : ∀ l : List Nat, (∀ i ∈ l, i < n) → wr (l.map f) ≤ Rows.uptoBulkAll (l.map D) := by
    intro l
    induction l with
    | nil => intro _; exact Nat.zero_le _
    | cons i l ih =>
      intro hl
      simp only [List.map_cons, wr, Rows.uptoBulkAll]
      have h1 := h i (hl i List.mem_cons_self)
      have h2 := ih (fun j hj => hl j (List.mem_cons_of_mem _ hj))
      omega
  exact key _ (fun i hi => List.mem_range.1 hi)

theorem rows_in {H : Type} {enc : TypeId × Value → H} {W : World} {d : DataW H} {p : List MemPlace} {a : Option Addr} {len cap : Nat}
    (h : DataW.Trod enc Try.prog W 0 (fun _ => true) true 36 (.slice a len cap) d p) :
    ∃ ls : List (List S40), len = ls.length ∧ Kd.C (Kd.slice 40 k40) W a ls.length ls ∧ ls.length ≤ cap ∧ wr ls ≤ Rows.uptoBulk d := by
  obtain ⟨fuel, hf⟩ := h
  have hc1 : Try.prog.cellsOf 38 = 1 := by kernel_rfl
  rcases open_slice Try.underlying36 hf with ⟨hcs, hx⟩ | ⟨x, l, c, m, n, D, Pl, hcs, _, hl, hm, hmm, hx, hi⟩
  · simp [Value.cells] at hcs
    obtain ⟨rfl, rfl, rfl⟩ := hcs
    exact ⟨[], rfl, ⟨rfl, by simp, fun h => absurd h (Nat.lt_irrefl 0)⟩, Nat.le_refl _, by simp [wr]⟩
  · simp [Value.cells] at hcs
    obtain ⟨rfl, rfl, rfl⟩ := hcs
    simp only [if_true] at hmm
    rw [hc1] at hi
    have hex : ∀ i, ∃ q : List S40, i < len → wp q + 1 ≤ Rows.uptoBulk (D i) ∧ ∃ cs', W.cells? 0 (x.add (i * 1)) 1 = some cs' ∧ (Kd.slice 40 k40).K W q cs' := fun i => by
      by_cases hlt : i < len
      · obtain ⟨cs', h1, h2⟩ := hi i (by omega)
        obtain ⟨q, A, c', e1, e2, e3, e4⟩ := pieces_at h2
        exact ⟨q, fun _ => ⟨e4, cs', h1, ⟨A, c', e1, e2, e3⟩⟩⟩
      · exact ⟨[], fun h => absurd h hlt⟩
    obtain ⟨f, hfq⟩ := Classical.axiomOfChoice hex
    have hlen : ((List.range len).map f).length = len := by simp
    unfold maxLen at hm
    refine ⟨(List.range len).map f, hlen.symm, ⟨rfl, by omega, fun h0 => ⟨x, rfl, fun j q hq => ?_⟩⟩, by omega, ?_⟩
    · have hj : j < len := by have := (List.getElem?_eq_some_iff.1 hq).1; omega
      obtain ⟨_, cs', h1, h2⟩ := hfq j hj
      have hqf : q = f j := by
        have := (List.getElem?_eq_some_iff.1 hq).2
        simp at this
        exact this.symm
      subst hqf
      obtain ⟨hlc, _, hat⟩ := World.cells?_some h1
      have hl1 : cs'.length = 1 := (Kd.slice 40 k40).K_len h2
      refine ⟨cs', hl1, h2, fun i u hu => ?_⟩
      have hi3 : i < 1 := by have := (List.getElem?_eq_some_iff.1 hu).1; omega
      have e3 : x.add (j * 1 + i) = (x.add (j * 1)).add i := by first | exact (Go.Deep.add_add _ _ _).symm | exact Go.Deep.add_add _ _ _
      show W.cell? (x.add (j * 1 + i)) = some u
      rw [e3, hat i hi3, hu]
    · simp only [Prod.mk.injEq] at hx
      obtain ⟨rfl, _⟩ := hx
      simp only [Rows.uptoBulk]
      have := rows_bulk len D f (fun i hi => (hfq i hi).1)
      omega

end Go.Proofs.Ytopmkiadoacipaa.RowsIn

/- A []string that came in, opened: its elements as a list that is read, and how much they hold together (what the second form's bound speaks of). -/
import Derived.Test.YtopmkiadoacipaaRows
import Derived.Test.YtopmkiadoacipaaWWords
import Derived.SliceStrings
import Derived.ProofKit
import Derived.RowKit
namespace Go.Proofs.Ytopmkiadoacipaa.StrsIn
open Go.RowKit Go.ChangeShapes Go.WideShapes Go.ChangeAt Go.Proofs.YtopmkiadoacipaaW.PrintWords

/-- letters and places of a list of texts -/
def wt : List ByteArray → Nat
  | [] => 0
  | s :: l => s.size + 1 + wt l
theorem wt_take (l : List ByteArray) (n : Nat) : wt (l.take n) ≤ wt l := by
  induction l generalizing n with
  | nil => simp [wt]
  | cons s l ih =>
    cases n with
    | zero => simp [wt]
    | succ n => simp only [List.take_succ_cons, wt]; have := ih n; omega
theorem wt_length (l : List ByteArray) : l.length ≤ wt l := by
  induction l with
  | nil => simp
  | cons s l ih => simp only [List.length_cons, wt]; omega
theorem wt_mem {l : List ByteArray} {s : ByteArray} (h : s ∈ l) : s.size ≤ wt l := by
  induction l with
  | nil => cases h
  | cons x l ih =>
    simp only [wt]
    cases List.mem_cons.1 h with
    | inl e => subst e; omega
    | inr e => have := ih e; omega

theorem wt_bulk {H : Type} (l : List ByteArray) : Rows.uptoBulkAll (H := H) (strs l) = wt l := by
  induction l with
  | nil => simp [strs, Rows.uptoBulkAll, wt]
  | cons s l ih =>
    have e : (strs (s :: l) : List (DataW H)) = .lit (.string s.data.toList) :: strs l := rfl
    rw [e]
    simp only [Rows.uptoBulkAll, wt, ih, Rows.uptoBulk]
    simp

theorem strs_in {H : Type} {enc : TypeId × Value → H} {P : Program} {W : World} {t e : TypeId} {d : DataW H} {p : List MemPlace} {a : Option Addr} {len cap : Nat}
    (ht : P.underlying t = some (.slice e)) (he : P.underlying e = some .string) (hc : P.cellsOf e = 1) (h : DataW.Trod enc P W 0 (fun _ => true) true t (.slice a len cap) d p) :
    ∃ l : List ByteArray, len = l.length ∧ Kd.C Kd.string W a l.length l ∧ l.length ≤ cap ∧ wt l ≤ Rows.uptoBulk d := by
  obtain ⟨fuel, hf⟩ := h
  rcases open_strings ht he hc hf with ⟨hcs, hx⟩ | ⟨x, l, c, ss, hcs, _, hl, hm, hz, hx, hcell, _⟩
  · simp [Value.cells] at hcs
    obtain ⟨rfl, rfl, rfl⟩ := hcs
    exact ⟨[], rfl, Kd.C_of_reads (enc := Value.string) (d := ByteArray.empty) (h1 := fun _ => rfl) ⟨rfl, by simp, fun h => absurd h (Nat.lt_irrefl 0)⟩, Nat.le_refl _, by simp [wt]⟩
  · simp [Value.cells] at hcs
    obtain ⟨rfl, rfl, rfl⟩ := hcs
    simp only [if_true] at hz
    have hlen : (ss.take len).length = len := by rw [List.length_take]; omega
    unfold maxLen at hm
    refine ⟨ss.take len, hlen.symm, Kd.C_of_reads (enc := Value.string) (d := ByteArray.empty) (h1 := fun _ => rfl) ⟨rfl, by omega, fun h => ⟨x, rfl, fun j hj => ?_⟩⟩, by omega, ?_⟩
    · rw [hcell j (by omega)]
      simp [List.getD_eq_getElem?_getD, show j < len by omega]
    · simp only [Prod.mk.injEq] at hx
      obtain ⟨rfl, _⟩ := hx
      simp only [Rows.uptoBulk]
      rw [wt_bulk]
      omega

end Go.Proofs.Ytopmkiadoacipaa.StrsIn

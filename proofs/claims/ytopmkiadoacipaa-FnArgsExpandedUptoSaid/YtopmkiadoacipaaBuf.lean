/- A buffer of bytes of the call's own: append of a text and of a byte; the text out of it. -/
import Derived.Test.YtopmkiadoacipaaTable
namespace Go.Proofs.Ytopmkiadoacipaa.Buf
open Go.RowKit Go.Proofs.YtopmkiadoacipaaW.PrintWords

theorem info5 : (Try.prog.info? 5).map (fun i => (i.zero, i.size, i.bytes)) = some (some (.int .u8 0), 1, 1) := by kernel_rfl

/-- the slice at block g holds the bytes B -/
def Own (w : World) (base g cap : Nat) (B : ByteArray) : Prop := w.ownsRow base 5 1 (.slice (some ⟨g, 0, none⟩) B.size cap) B.size (Lib.strCells B)

theorem cells_append (a b : ByteArray) : Lib.strCells (a ++ b) = Lib.strCells a ++ Lib.strCells b := by
  simp [Lib.strCells]

theorem Own.below {w w1 : World} {base g cap : Nat} {B : ByteArray} (h : Own w base g cap B) (hb : Below w.heap.size w w1) : Own w1 base g cap B := by
  refine ⟨h.1, ?_⟩
  rcases h.2 with ⟨e, _⟩ | ⟨g', cap', cur, e, h1, h2, h3⟩
  · cases e
  · exact .inr ⟨g', cap', cur, e, h1, (hb.block g' (Array.getElem?_eq_some_iff.1 h2).1).trans h2, h3⟩

theorem own_form {w : World} {base n : Nat} {v : Value} {xs : List Value} (h : w.ownsRow base 5 1 v n xs) (hv : v ≠ .slice none 0 0) : ∃ g cap, v = .slice (some ⟨g, 0, none⟩) n cap := by
  rcases h.2 with ⟨rfl, _⟩ | ⟨g, cap, cur, rfl, _⟩
  · exact absurd rfl hv
  · exact ⟨g, cap, rfl⟩

section
variable {ops : Array Oper} {rest : List Oper} {o : Oper} {a : Act} {Q : Exit → Act → World → Prop}

theorem append_str {w0 W : World} (base : Nat) (hgd : o.guard = none) (s x : Operand)
    (ho : o.op = .call { callee := .builtin .append, args := #[s, x], argTypes := #[52, 9] })
    (g cap n : Nat) (B y : ByteArray) (hs : a.eval s = .slice (some ⟨g, 0, none⟩) n cap) (hn : n = B.size) (hx : a.eval x = .string y)
    (HO : Own W base g cap B) (HB : Below base w0 W) (hbase : base ≤ W.heap.size) (hl : B.size + y.size ≤ 140737488355328)
    (h : ∀ g1 c1 w1, Own w1 base g1 c1 (B ++ y) → Below base w0 w1 → wpList Try.prog ops Q rest (a.put o.dst (.slice (some ⟨g1, 0, none⟩) (B ++ y).size c1)) w1) :
    wpList Try.prog ops Q (o :: rest) a W := by
  subst hn
  obtain ⟨i0, hi, hzz⟩ := Option.map_eq_some_iff.1 info5
  simp only [Prod.mk.injEq] at hzz
  obtain ⟨hz0, hz1, hz2⟩ := hzz
  refine Lib.wpList_append_own_string W hgd s x 52 9 ho base 5 i0 Try.underlying52 Try.underlying9 hi hz0 hz1 hz2 _ B.size (Lib.strCells B) hs HO y hx (by simp only [maxLen]; omega) hl hbase ?_
  intro v1 w1 hown hg hnil
  obtain ⟨g1, c1, rfl⟩ := own_form hown (fun e => by have := (hnil.1 e).1; simp at this)
  have hz : (B ++ y).size = B.size + y.size := ByteArray.size_append
  have hown' : Own w1 base g1 c1 (B ++ y) := by
    unfold Own
    rw [cells_append, hz]; exact hown
  have := h g1 c1 w1 hown' (HB.grown hg hbase (own_base HO))
  rwa [hz] at this

theorem append_byte {w0 W : World} (base : Nat) (hgd : o.guard = none) (s x : Operand)
    (ho : o.op = .call { callee := .builtin .append, args := #[s, x], argTypes := #[52, 52] })
    (g cap n : Nat) (B : ByteArray) (c : UInt8) (z : Int) (hz : z = (c.toNat : Int)) (hs : a.eval s = .slice (some ⟨g, 0, none⟩) n cap) (hn : n = B.size) (hx : a.eval x = .slice (some ⟨W.heap.size, 0, none⟩) 1 1)
    (HO : Own W base g cap B) (HB : Below base w0 W) (hbase : base ≤ W.heap.size) (hl : B.size + 1 ≤ 140737488355328)
    (h : ∀ g1 c1 w1, Own w1 base g1 c1 (B ++ ⟨#[c]⟩) → Below base w0 w1 → wpList Try.prog ops Q rest (a.put o.dst (.slice (some ⟨g1, 0, none⟩) (B ++ ⟨#[c]⟩).size c1)) w1) :
    wpList Try.prog ops Q (o :: rest) a (W.alloc (.cells #[.int .u8 z] 5)) := by
  subst hn hz
  have hl0 : (Lib.strCells B).length = B.size := by simp [Lib.strCells]
  have hz : (B ++ (⟨#[c]⟩ : ByteArray)).size = B.size + 1 := ByteArray.size_append
  refine print_append (w0 := w0) base hgd s x 52 5 (.int .u8 0) 1 ho Try.underlying52 info5 rfl (by decide) _ (Lib.strCells B) (.int .u8 (c.toNat : Int)) hs hx rfl (by rw [hl0]; exact HO) HB hbase (by rw [hl0]; omega) ?_
  intro v1 w1 hown hb _ _
  obtain ⟨g1, c1, rfl, _⟩ := hown.form (by simp)
  have e1 : (Lib.strCells B ++ [Value.int .u8 (c.toNat : Int)]).length = (B ++ (⟨#[c]⟩ : ByteArray)).size := by rw [hz, List.length_append, hl0]; rfl
  rw [e1] at hown ⊢
  refine h g1 c1 w1 ?_ hb
  unfold Own
  rw [cells_append]
  exact hown
end

theorem string_of {w : World} {base g cap n : Nat} {B : ByteArray} (h : Own w base g cap B) (hn : n = B.size) : (convert 52 9 (.slice (some ⟨g, 0, none⟩) n cap)).run Try.prog w = .ok (.string B) w := by
  subst hn
  have hc : Lib.strCells B = nums .u8 (bytesOf B) := by simp [nums, bytesOf, Lib.strCells]
  have := own_string (dst := 9) Try.underlying52 Try.underlying5 Try.underlying9 (by unfold Own at h; rw [hc] at h; exact h)
  rw [this]
  congr 2
  apply ByteArray.ext
  apply Array.ext'
  simp only [strOfNums, bytesOf, List.map_map]
  have hm : ∀ l : List UInt8, l.map ((fun n : Int => UInt8.ofNat n.toNat) ∘ fun b : UInt8 => (b.toNat : Int)) = l := by
    intro l
    induction l with
    | nil => rfl
    | cons x l ih => rw [List.map_cons, ih]; simp
  exact hm _

end Go.Proofs.Ytopmkiadoacipaa.Buf

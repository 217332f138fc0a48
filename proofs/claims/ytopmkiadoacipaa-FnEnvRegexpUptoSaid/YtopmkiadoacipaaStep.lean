/- append of a text and of a byte as steps of a region that draws its order. -/
import Derived.Test.YtopmkiadoacipaaBuf
import Derived.Deep.RegionLaw
import Derived.Maps.AppendAt
namespace Go.Proofs.Ytopmkiadoacipaa.Buf
open Go.RowKit Go.Proofs.YtopmkiadoacipaaW.PrintWords

/-- v (nil too) holds the bytes B -/
def OwnV (w : World) (base : Nat) (v : Value) (B : ByteArray) : Prop := w.ownsRow base 5 1 v B.size (Lib.strCells B)

/-- another block than the row's is as it was, and is not the new row -/
def Keeps (w : World) (v : Value) (w1 : World) (v1 : Value) : Prop :=
  ∀ (g : Nat) (o : Nat) (z : Value), w.cell? ⟨g, o, none⟩ = some z → v.ownBlock ≠ some g → w1.cell? ⟨g, o, none⟩ = some z ∧ v1.ownBlock ≠ some g

theorem keeps_of {w w1 : World} {v v1 : Value} (hg : w.grownBy w1 v.ownBlock) (hl : v1.ownBlock = v.ownBlock ∨ v1.ownBlock = some w.heap.size) : Keeps w v w1 v1 := by
  intro g o z hc hn
  have hlt : g < w.heap.size := World.block_lt_of_cell? w _ hc
  refine ⟨?_, ?_⟩
  · have hb := hg.block g hlt (fun e => hn e.symm)
    unfold World.cell? at hc ⊢
    simp only at hc ⊢
    rw [hb]; exact hc
  · rcases hl with h | h
    · rw [h]; exact hn
    · rw [h]; intro e; injection e with e; omega

theorem str_loc {w w1 : World} {base n : Nat} {v v1 : Value} {xs : List Value} {ty : TypeId} (hown : w.ownsRow base 5 1 v n xs) (s : ByteArray) (hb : n + s.size ≤ 140737488355328)
    (hr : (Builtin.append_ #[52, 9] ty #[v, .string s]).run Try.prog w = .ok v1 w1) : v1.ownBlock = v.ownBlock ∨ v1.ownBlock = some w.heap.size := by
  obtain ⟨i0, hi, hzz⟩ := Option.map_eq_some_iff.1 info5
  simp only [Prod.mk.injEq] at hzz
  obtain ⟨hz0, hz1, hz2⟩ := hzz
  have hxl : xs.length = n := by simpa using hown.1
  rcases hown.2 with ⟨rfl, rfl⟩ | ⟨g, cap, cur, rfl, hbg, hg, hnc, hcm, hcs, htake⟩
  · by_cases hm : s.size = 0
    · have hf := Lib.run_firstCells_string (P := Try.prog) w 1 s
      rw [hm] at hf
      have h0 : (Builtin.append_ #[52, 9] ty #[.slice none 0 0, .string s]).run Try.prog w = .ok (.slice none 0 0) w := by
        simp [Builtin.append_, run_underlying Try.underlying52, run_underlying Try.underlying9, sizeOf, typeInfo, hi, hz1, Builtin.lenOf, hm, hf]
      rw [h0] at hr
      injection hr with e1 e2
      subst e1
      exact .inl rfl
    · have h0 := run_append_nil_string (P := Try.prog) w 52 9 ty 5 i0 (.int .u8 0) Try.underlying52 Try.underlying9 hi hz0 s (by omega) (by omega) (by rw [hz2]; omega)
      rw [h0] at hr
      injection hr with e1 e2
      subst e1
      exact .inr rfl
  · by_cases hroom : n + s.size ≤ cap
    · have h0 := Lib.run_append_room_string (P := Try.prog) w 52 9 ty 5 i0 Try.underlying52 Try.underlying9 hi hz1 g n cap cur hg s hroom (by omega)
      rw [h0] at hr
      injection hr with e1 e2
      subst e1
      exact .inl rfl
    · have holds : ∀ j u, xs[j]? = some u → w.cell? ((⟨g, 0, none⟩ : Addr).add j) = some u := hown.cells (g := g) rfl
      have h0 := Lib.run_append_grow_string (P := Try.prog) w 52 9 ty 5 i0 (.int .u8 0) Try.underlying52 Try.underlying9 hi hz0 ⟨g, 0, none⟩ n cap xs (by rw [hz1]; simpa using hxl) holds s (by omega) (by omega) (by rw [hz2]; exact growslice_fits (by omega) (by omega))
      rw [h0] at hr
      injection hr with e1 e2
      subst e1
      exact .inr rfl

section
variable {ops : Array Oper} {o : Oper} {a : Act} {K : Act → World → Prop} {Q : Exit → Act → World → Prop} {E : Prop}

theorem step_str {W : World} (w0 : World) (hgd : o.guard = none) (s x : Operand)
    (ho : o.op = .call { callee := .builtin .append, args := #[s, x], argTypes := #[52, 9] })
    (v : Value) (B y : ByteArray) (hs : a.eval s = v) (hx : a.eval x = .string y)
    (HO : OwnV W w0.heap.size v B) (HB : Below w0.heap.size w0 W) (hl : B.size + y.size ≤ 140737488355328)
    (h : ∀ v1 w1, OwnV w1 w0.heap.size v1 (B ++ y) → Below w0.heap.size w0 w1 → Keeps W v w1 v1 → K (a.put o.dst v1) w1) :
    if Region.wanted o (yielded ops a.tmps) = true then Oper.wp Try.prog o a W K Q else E := by
  have hw : Region.wanted o (yielded ops a.tmps) = true := by simp [Region.wanted, hgd]
  rw [if_pos hw]
  obtain ⟨i0, hi, hzz⟩ := Option.map_eq_some_iff.1 info5
  simp only [Prod.mk.injEq] at hzz
  obtain ⟨hz0, hz1, hz2⟩ := hzz
  obtain ⟨v1, w1, hrun, hown, hg, _⟩ := Lib.run_append_own_string (P := Try.prog) W w0.heap.size 52 9 o.type 5 i0 Try.underlying52 Try.underlying9 hi hz0 hz1 hz2 v B.size (Lib.strCells B) HO y (by simp only [maxLen]; omega) hl HB.size
  have hz : (B ++ y).size = B.size + y.size := ByteArray.size_append
  have hk := h v1 w1 (by unfold OwnV; rw [cells_append, hz]; exact hown) (HB.grown hg HB.size (own_base HO)) (keeps_of hg (str_loc HO y hl hrun))
  unfold Oper.wp
  simp [execOp, ho, resolve, invoke, builtin, hs, hx, hrun, Result.andThen]
  exact hk

theorem step_byte {W : World} (w0 : World) (hgd : o.guard = none) (s x : Operand)
    (ho : o.op = .call { callee := .builtin .append, args := #[s, x], argTypes := #[52, 52] })
    (v : Value) (B : ByteArray) (c : UInt8) (z : Int) (hz : z = (c.toNat : Int)) (hs : a.eval s = v) (gb cb : Nat) (hx : a.eval x = .slice (some ⟨gb, 0, none⟩) 1 cb) (hc : W.cell? ⟨gb, 0, none⟩ = some (.int .u8 z))
    (HO : OwnV W w0.heap.size v B) (HB : Below w0.heap.size w0 W) (hl : B.size + 1 ≤ 140737488355328)
    (h : ∀ v1 w1, OwnV w1 w0.heap.size v1 (B ++ ⟨#[c]⟩) → Below w0.heap.size w0 w1 → Keeps W v w1 v1 → K (a.put o.dst v1) w1) :
    if Region.wanted o (yielded ops a.tmps) = true then Oper.wp Try.prog o a W K Q else E := by
  have hw : Region.wanted o (yielded ops a.tmps) = true := by simp [Region.wanted, hgd]
  rw [if_pos hw]
  subst hz
  obtain ⟨i0, hi, hzz⟩ := Option.map_eq_some_iff.1 info5
  simp only [Prod.mk.injEq] at hzz
  obtain ⟨hz0, hz1, hz2⟩ := hzz
  obtain ⟨v1, w1, hrun, hown, hg, _, hloc⟩ := run_append_own_at (P := Try.prog) W w0.heap.size 52 o.type 5 i0 (.int .u8 0) 1 1 Try.underlying52 hi hz0 hz1 hz2 rfl (by omega) v B.size (Lib.strCells B) HO ⟨gb, 0, none⟩ 1 cb [.int .u8 (c.toNat : Int)] rfl
    (fun j u hj => by
      cases j with
      | zero => simp at hj; subst hj; simpa [Addr.add] using hc
      | succ j => simp at hj) (fun u hu => by rw [List.mem_singleton] at hu; subst hu; rfl) (by simp only [maxLen]; omega) (by omega) HB.size
  have hz : (B ++ (⟨#[c]⟩ : ByteArray)).size = B.size + 1 := ByteArray.size_append
  have hk := h v1 w1 (by unfold OwnV; rw [cells_append, hz]; exact hown) (HB.grown hg HB.size (own_base HO)) (keeps_of hg hloc)
  unfold Oper.wp
  simp [execOp, ho, resolve, invoke, builtin, hs, hx, hrun, Result.andThen]
  exact hk
end

theorem append_strV {W : World} {rest : List Oper} {Q : Exit → Act → World → Prop} {ops : Array Oper} {o : Oper} {a : Act} (w0 : World) (hgd : o.guard = none) (s x : Operand)
    (ho : o.op = .call { callee := .builtin .append, args := #[s, x], argTypes := #[52, 9] })
    (v : Value) (B y : ByteArray) (hs : a.eval s = v) (hx : a.eval x = .string y)
    (HO : OwnV W w0.heap.size v B) (HB : Below w0.heap.size w0 W) (hl : B.size + y.size ≤ 140737488355328)
    (h : ∀ v1 w1, OwnV w1 w0.heap.size v1 (B ++ y) → Below w0.heap.size w0 w1 → wpList Try.prog ops Q rest (a.put o.dst v1) w1) :
    wpList Try.prog ops Q (o :: rest) a W := by
  obtain ⟨i0, hi, hzz⟩ := Option.map_eq_some_iff.1 info5
  simp only [Prod.mk.injEq] at hzz
  obtain ⟨hz0, hz1, hz2⟩ := hzz
  refine Lib.wpList_append_own_string W hgd s x 52 9 ho w0.heap.size 5 i0 Try.underlying52 Try.underlying9 hi hz0 hz1 hz2 _ B.size (Lib.strCells B) hs HO y hx (by simp only [maxLen]; omega) hl HB.size ?_
  intro v1 w1 hown hg hnil
  have hz : (B ++ y).size = B.size + y.size := ByteArray.size_append
  exact h v1 w1 (by unfold OwnV; rw [cells_append, hz]; exact hown) (HB.grown hg HB.size (own_base HO))

theorem OwnV.fresh {w : World} {base : Nat} {v : Value} {B : ByteArray} (h : OwnV w base v B) (g : Nat) (hg : w.heap.size ≤ g) : v.ownBlock ≠ some g := by
  rcases h.2 with ⟨rfl, _⟩ | ⟨g', cap, cur, rfl, _, hh, _⟩
  · simp [Value.ownBlock]
  · intro e
    simp only [Value.ownBlock, Option.some.injEq] at e
    have := (Array.getElem?_eq_some_iff.1 hh).1
    omega

theorem OwnV.alloc {w : World} {base : Nat} {v : Value} {B : ByteArray} (h : OwnV w base v B) (o : Obj) : OwnV (w.alloc o) base v B := World.ownsRow.alloc h o

theorem string_ofV {w : World} {base : Nat} {v : Value} {B : ByteArray} (h : OwnV w base v B) : (convert 52 9 v).run Try.prog w = .ok (.string B) w := by
  rcases h.2 with ⟨rfl, h0⟩ | ⟨g, cap, cur, rfl, _⟩
  · have hB : B = ByteArray.empty := by
      apply ByteArray.ext
      apply Array.ext'
      have : B.data.toList.length = 0 := by rw [Array.length_toList]; exact h0
      rw [List.eq_nil_of_length_eq_zero this]; rfl
    subst hB
    exact run_convert_bytes_nil w 52 5 Try.underlying52 Try.underlying5 0 0 9 Try.underlying9
  · exact string_of h rfl

end Go.Proofs.Ytopmkiadoacipaa.Buf

/- Turning a word; the block of a digest; a digest set back and made; what fips140 records. -/
import Derived.Test.YtodofpjdcongnaaDoorTwo
import Derived.Test.YtodofpjdcongnaaDoorSignD
section
/- math/bits.RotateLeft32, at the numbers that SHA-256 gives it. -/
namespace Go.Proofs.YtodofpjdcongnaaDoor.Sign
open Go.RowKit Go.Proofs.YtodofpjdcongnaaDoorW.PrintWords

/-- a word turned left by s -/
def rotl (x : Int) (s : Nat) : Int := bits .or .u32 (x * 2 ^ s % 4294967296) (x / 2 ^ (32 - s))

set_option maxHeartbeats 4000000 in
theorem rot_left (x k : Int) (s : Nat) (hs : bits .and .u64 (IntKind.u64.wrap k) 31 = (s : Int)) (h2 : s ≤ 31) (w : World) : Calls Tryd.prog 93 #[.int .u32 x, .int .i64 k] w fun e w' => e = .returned (.int .u32 (rotl x s)) ∧ w' = w := by
  go_enter Tryd.func93, Tryd.ntmps93
  go_wp2
  go_ret
  exact ⟨rfl, rfl⟩

theorem by17 : bits .and .u64 (IntKind.u64.wrap (-17)) 31 = ((15 : Nat) : Int) := by kernel_rfl
theorem by19 : bits .and .u64 (IntKind.u64.wrap (-19)) 31 = ((13 : Nat) : Int) := by kernel_rfl
theorem by7 : bits .and .u64 (IntKind.u64.wrap (-7)) 31 = ((25 : Nat) : Int) := by kernel_rfl
theorem by18 : bits .and .u64 (IntKind.u64.wrap (-18)) 31 = ((14 : Nat) : Int) := by kernel_rfl
theorem by6 : bits .and .u64 (IntKind.u64.wrap (-6)) 31 = ((26 : Nat) : Int) := by kernel_rfl
theorem by11 : bits .and .u64 (IntKind.u64.wrap (-11)) 31 = ((21 : Nat) : Int) := by kernel_rfl
theorem by25 : bits .and .u64 (IntKind.u64.wrap (-25)) 31 = ((7 : Nat) : Int) := by kernel_rfl
theorem by2 : bits .and .u64 (IntKind.u64.wrap (-2)) 31 = ((30 : Nat) : Int) := by kernel_rfl
theorem by13 : bits .and .u64 (IntKind.u64.wrap (-13)) 31 = ((19 : Nat) : Int) := by kernel_rfl
theorem by22 : bits .and .u64 (IntKind.u64.wrap (-22)) 31 = ((10 : Nat) : Int) := by kernel_rfl
end Go.Proofs.YtodofpjdcongnaaDoor.Sign
end

section
/- The state of a SHA-256 digest in its block. -/
namespace Go.Proofs.YtodofpjdcongnaaDoor.Sign
open Go.RowKit Go.Proofs.YtodofpjdcongnaaDoorW.PrintWords

/-- the cells of a digest: eight words, sixty-four bytes, how many of them wait, how many there were, not SHA-224 -/
def dig (hs xs : List Int) (nx len : Int) : List Value := nums .u32 hs ++ (nums .u8 xs ++ [.int .i64 nx, .int .u64 len, .bool false])

structure Dg (w : World) (D : Nat) (hs xs : List Int) (nx len : Int) : Prop where
  h8 : hs.length = 8
  x64 : xs.length = 64
  blk : w.heap[D]? = some (.cells (dig hs xs nx len).toArray 99 (0, 0))

theorem nums_len (k : IntKind) (l : List Int) : (nums k l).length = l.length := by simp [nums]
theorem nums_at (k : IntKind) (l : List Int) (j : Nat) : (nums k l)[j]? = (l[j]?).map (Value.int k) := by simp [nums]
theorem nums_set (k : IntKind) (l : List Int) (j : Nat) (v : Int) : (nums k l).set j (.int k v) = nums k (l.set j v) := by simp [nums, List.map_set]

theorem Dg.cell_h {w : World} {D : Nat} {hs xs : List Int} {nx len : Int} (h : Dg w D hs xs nx len) (j : Nat) (hj : j < 8) : w.cell? ⟨D, j, none⟩ = some (.int .u32 (hs.getD j 0)) := by
  have hl : j < hs.length := by rw [h.h8]; exact hj
  rw [blk_cell h.blk, List.getElem?_toArray, dig, List.getElem?_append_left (by rw [nums_len]; exact hl), nums_at]
  simp [List.getD, List.getElem?_eq_getElem hl]
theorem Dg.cell_x {w : World} {D : Nat} {hs xs : List Int} {nx len : Int} (h : Dg w D hs xs nx len) (j : Nat) (hj : j < 64) : w.cell? ⟨D, 8 + j, none⟩ = some (.int .u8 (xs.getD j 0)) := by
  have hl : j < xs.length := by rw [h.x64]; exact hj
  rw [blk_cell h.blk, List.getElem?_toArray, dig, List.getElem?_append_right (by rw [nums_len, h.h8]; omega), nums_len, h.h8, List.getElem?_append_left (by rw [nums_len]; omega), nums_at]
  simp [List.getD, List.getElem?_eq_getElem hl]
theorem Dg.tail {w : World} {D : Nat} {hs xs : List Int} {nx len : Int} (h : Dg w D hs xs nx len) (j : Nat) : w.cell? ⟨D, 72 + j, none⟩ = [.int .i64 nx, .int .u64 len, .bool false][j]? := by
  rw [blk_cell h.blk, List.getElem?_toArray, dig, List.getElem?_append_right (by rw [nums_len, h.h8]; omega), nums_len, h.h8, List.getElem?_append_right (by rw [nums_len, h.x64]; omega), nums_len, h.x64]
  congr 1
  omega
theorem Dg.cell_nx {w : World} {D : Nat} {hs xs : List Int} {nx len : Int} (h : Dg w D hs xs nx len) : w.cell? ⟨D, 72, none⟩ = some (.int .i64 nx) := h.tail 0
theorem Dg.cell_len {w : World} {D : Nat} {hs xs : List Int} {nx len : Int} (h : Dg w D hs xs nx len) : w.cell? ⟨D, 73, none⟩ = some (.int .u64 len) := h.tail 1
theorem Dg.cell_224 {w : World} {D : Nat} {hs xs : List Int} {nx len : Int} (h : Dg w D hs xs nx len) : w.cell? ⟨D, 74, none⟩ = some (.bool false) := h.tail 2
theorem Dg.free {w : World} {D : Nat} {hs xs : List Int} {nx len : Int} (h : Dg w D hs xs nx len) (j : Nat) : w.frozen? ⟨D, j, none⟩ = false := blk_frozen h.blk j

theorem Dg.set_h {w : World} {D : Nat} {hs xs : List Int} {nx len : Int} (h : Dg w D hs xs nx len) (j : Nat) (hj : j < 8) (v : Int) : Dg (w.setCell ⟨D, j, none⟩ (.int .u32 v)) D (hs.set j v) xs nx len := by
  refine ⟨by rw [List.length_set]; exact h.h8, h.x64, blk_put h.blk j _ ?_⟩
  have hl : j < (nums .u32 hs).length := by rw [nums_len, h.h8]; exact hj
  rw [List.setIfInBounds_toArray]
  congr 1
  unfold dig
  rw [List.set_append_left _ _ hl, nums_set]
theorem Dg.set_nx {w : World} {D : Nat} {hs xs : List Int} {nx len : Int} (h : Dg w D hs xs nx len) (v : Int) : Dg (w.setCell ⟨D, 72, none⟩ (.int .i64 v)) D hs xs v len := by
  refine ⟨h.h8, h.x64, blk_put h.blk 72 _ ?_⟩
  rw [List.setIfInBounds_toArray]
  congr 1
  unfold dig
  rw [List.set_append_right _ _ (by rw [nums_len, h.h8]; omega), nums_len, h.h8, List.set_append_right _ _ (by rw [nums_len, h.x64]; omega), nums_len, h.x64]
  rfl
theorem Dg.set_len {w : World} {D : Nat} {hs xs : List Int} {nx len : Int} (h : Dg w D hs xs nx len) (v : Int) : Dg (w.setCell ⟨D, 73, none⟩ (.int .u64 v)) D hs xs nx v := by
  refine ⟨h.h8, h.x64, blk_put h.blk 73 _ ?_⟩
  rw [List.setIfInBounds_toArray]
  congr 1
  unfold dig
  rw [List.set_append_right _ _ (by rw [nums_len, h.h8]; omega), nums_len, h.h8, List.set_append_right _ _ (by rw [nums_len, h.x64]; omega), nums_len, h.x64]
  rfl
theorem Dg.grown {w w1 : World} {D : Nat} {hs xs : List Int} {nx len : Int} (h : Dg w D hs xs nx len) {row : Option Nat} (hg : w.grownBy w1 row) (hr : some D ≠ row) : Dg w1 D hs xs nx len := ⟨h.h8, h.x64, blk_grown h.blk hg hr⟩
end Go.Proofs.YtodofpjdcongnaaDoor.Sign
end

section
/- A digest that is set back. -/
namespace Go.Proofs.YtodofpjdcongnaaDoor.Sign
open Go.RowKit Go.Proofs.YtodofpjdcongnaaDoorW.PrintWords

def h0s : List Int := [1779033703, 3144134277, 1013904242, 2773480762, 1359893119, 2600822924, 528734635, 1541459225]

theorem set8 (hs : List Int) (h : hs.length = 8) (a b c d e f g i : Int) : (((((((hs.set 0 a).set 1 b).set 2 c).set 3 d).set 4 e).set 5 f).set 6 g).set 7 i = [a, b, c, d, e, f, g, i] := by
  match hs, h with
  | [_, _, _, _, _, _, _, _], _ => rfl

set_option maxHeartbeats 8000000 in
set_option maxRecDepth 100000 in
theorem dig_reset (D : Nat) (hs xs : List Int) (nx len : Int) (w : World) (h : Dg w D hs xs nx len) :
    Calls Tryd.prog 55 #[.pointer (some ⟨D, 0, none⟩)] w fun e w' => e = .returned (.tuple #[]) ∧ Dg w' D h0s xs 0 0 ∧ w.grownBy w' (some D) := by
  have c0 := h.cell_h 0 (by omega)
  have c1 := h.cell_h 1 (by omega)
  have c2 := h.cell_h 2 (by omega)
  have c3 := h.cell_h 3 (by omega)
  have c4 := h.cell_h 4 (by omega)
  have c5 := h.cell_h 5 (by omega)
  have c6 := h.cell_h 6 (by omega)
  have c7 := h.cell_h 7 (by omega)
  have c72 := h.cell_nx
  have c73 := h.cell_len
  have c74 := h.cell_224
  have f0 := h.free 0
  have f1 := h.free 1
  have f2 := h.free 2
  have f3 := h.free 3
  have f4 := h.free 4
  have f5 := h.free 5
  have f6 := h.free 6
  have f7 := h.free 7
  have f72 := h.free 72
  have f73 := h.free 73
  have hu99 := Tryd.underlying99
  have H := Aside0.mk h
  clear h
  go_enter Tryd.func55, Tryd.ntmps55
  go_wp2_with fail
  go_end0
  refine ⟨rfl, ?_, ?_⟩
  · have a0 := H.out.set_h 0 (by omega) 1779033703
    have a1 := a0.set_h 1 (by omega) 3144134277
    have a2 := a1.set_h 2 (by omega) 1013904242
    have a3 := a2.set_h 3 (by omega) 2773480762
    have a4 := a3.set_h 4 (by omega) 1359893119
    have a5 := a4.set_h 5 (by omega) 2600822924
    have a6 := a5.set_h 6 (by omega) 528734635
    have a7 := a6.set_h 7 (by omega) 1541459225
    rw [set8 _ H.out.h8] at a7
    exact (a7.set_nx 0).set_len 0
  · exact (((((((((grown_put w D _ _).trans (grown_put _ D _ _)).trans (grown_put _ D _ _)).trans (grown_put _ D _ _)).trans (grown_put _ D _ _)).trans (grown_put _ D _ _)).trans (grown_put _ D _ _)).trans (grown_put _ D _ _)).trans (grown_put _ D _ _)).trans (grown_put _ D _ _)
end Go.Proofs.YtodofpjdcongnaaDoor.Sign
end

section
/- A new digest. -/
namespace Go.Proofs.YtodofpjdcongnaaDoor.Sign
open Go.RowKit Go.Proofs.YtodofpjdcongnaaDoorW.PrintWords

/-- a variable of whatever type as one step of the walk, its cells known -/
theorem alloc_known {P : Program} {ops : Array Oper} {rest : List Oper} {o : Oper} {a : Act} {Q : Exit → Act → World → Prop} {W : World} (hgd : o.guard = none) (N : Tmp) (hd : o.dst = some N) (t : TypeId) (ho : o.op = .alloc t) (cs : Array Value) (hz : ((P.info? t).bind (·.zero)).map (·.cells) = some cs)
    (h : ∀ g, g = W.heap.size → ∀ w1, w1.heap[g]? = some (.cells cs t (0, 0)) → Below W.heap.size W w1 → wpList P ops Q rest (a.put o.dst (.pointer (some ⟨g, 0, none⟩))) w1) : wpList P ops Q (o :: rest) a W := by
  cases hi : P.info? t with
  | none => rw [hi] at hz; cases hz
  | some i =>
    rw [hi] at hz
    cases hq : i.zero with
    | none => rw [show (some i).bind (·.zero) = i.zero from rfl, hq] at hz; cases hz
    | some z =>
      rw [show (some i).bind (·.zero) = i.zero from rfl, hq] at hz
      have hc : z.cells = cs := Option.some.inj hz
      have hrun : (execOp a.eval o).run P W = .ok (.value (.pointer (some ⟨W.heap.size, 0, none⟩))) (W.alloc (.cells cs t (0, 0))) := by
        rw [← hc]
        unfold execOp
        simp only [ho]
        have e1 : (typeInfo t).run P W = .ok i W := by
          simp [typeInfo, hi, go_sem]
        simp [Instr.alloc, zeroValue, newVar, go_sem, e1, hq]
      exact box_event hgd hd hrun h

def noughts (n : Nat) : List Int := List.replicate n 0
theorem zero99 : ((Tryd.prog.info? 99).bind (·.zero)).map (·.cells) = some (dig (noughts 8) (noughts 64) 0 0).toArray := by kernel_rfl

set_option maxHeartbeats 8000000 in
set_option maxRecDepth 100000 in
theorem sha_new (w : World) : Calls Tryd.prog 53 #[] w fun e w' => ∃ D, w.heap.size ≤ D ∧ e = .returned (.pointer (some ⟨D, 0, none⟩)) ∧ Dg w' D h0s (noughts 64) 0 0 ∧ Below w.heap.size w w' := by
  go_enter Tryd.func53, Tryd.ntmps53
  go_wp2_with ((with_reducible refine gate_dst (N := 2) rfl ?_); refine alloc_known rfl 2 rfl 99 rfl _ zero99 ?_; intro D hD w1 hb hB; have HK := Aside0.mk hb; have HD := Aside0.mk hD; have HB := Aside0.mk hB; clear hb hD hB)
  (with_reducible refine (dig_reset D (noughts 8) (noughts 64) 0 0 _ ⟨rfl, rfl, HK.out⟩).mono ?_)
  rintro e w2 ⟨rfl, hd, hg⟩
  have HG := Aside0.mk hg
  have HDg := Aside0.mk hd
  clear hg hd
  go_wp2
  go_ret
  refine ⟨D, Nat.le_of_eq HD.out.symm, rfl, HDg.out, ?_⟩
  exact ⟨HG.out.os.trans HB.out.os, HG.out.tape.trans HB.out.tape, HG.out.output.trans HB.out.output, Nat.le_trans HB.out.size HG.out.size, fun k hk => (HG.out.block k (Nat.lt_of_lt_of_le hk HB.out.size) (fun e => by injection e with e; have := HD.out; omega)).trans (HB.out.block k hk)⟩

set_option maxHeartbeats 8000000 in
theorem sha_new2 (w : World) : Calls Tryd.prog 49 #[] w fun e w' => ∃ D, w.heap.size ≤ D ∧ e = .returned (.iface 95 (.pointer (some ⟨D, 0, none⟩))) ∧ Dg w' D h0s (noughts 64) 0 0 ∧ Below w.heap.size w w' := by
  go_enter Tryd.func49, Tryd.ntmps49
  go_wp2_with fail
  (with_reducible refine (sha_new _).mono ?_)
  rintro e w1 ⟨D, hD, rfl, hd, hb⟩
  have HD := Aside0.mk hD
  have HDg := Aside0.mk hd
  have HB := Aside0.mk hb
  clear hD hd hb
  go_wp2
  go_ret
  exact ⟨D, HD.out, rfl, HDg.out, HB.out⟩
end Go.Proofs.YtodofpjdcongnaaDoor.Sign
end

section
/- fips140.RecordApproved. -/
namespace Go.Proofs.YtodofpjdcongnaaDoor.Sign
open Go.RowKit Go.Proofs.YtodofpjdcongnaaDoorW.PrintWords

theorem ind_get (w : World) : Sem.run Tryd.prog (callFunc 89 #[]) w = .ok (.value (.int .u8 0)) w := by kernel_rfl
theorem ind_set (w : World) : Sem.run Tryd.prog (callFunc 90 #[.int .u8 2]) w = .ok (.value (.tuple #[])) w := by kernel_rfl

set_option maxHeartbeats 4000000 in
theorem approved (w : World) : Calls Tryd.prog 86 #[] w fun e w' => e = .returned (.tuple #[]) ∧ w' = w := by
  have h1 := ind_get
  have h2 := ind_set
  go_enter Tryd.func86, Tryd.ntmps86
  go_wp2_with fail
  go_end0
  exact ⟨rfl, rfl⟩
end Go.Proofs.YtodofpjdcongnaaDoor.Sign
end

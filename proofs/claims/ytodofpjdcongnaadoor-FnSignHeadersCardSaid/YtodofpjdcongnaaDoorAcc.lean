/- A byte slice that grows by appends of fresh slices: the laws that spec.Fronts' walk takes. -/
import Derived.Test.YtodofpjdcongnaaDoorStore
import Derived.Test.YtodofpjdcongnaaDoorParts
namespace Go.Proofs.YtodofpjdcongnaaDoor.Sign
open Go.RowKit Go.Proofs.YtodofpjdcongnaaDoorW.PrintWords Go.Proofs.YtodofpjdcongnaaDoor.PFnSignHeaders

/-- the part of a word that spec.part reads -/
theorem part_at (x : Int) : spec_part.f x 0 = some (x / 16777216 % 256) ∧ spec_part.f x 1 = some (x / 65536 % 256) ∧ spec_part.f x 2 = some (x / 256 % 256) ∧ spec_part.f x 3 = some (x % 256) := by
  refine ⟨?_, ?_, ?_, ?_⟩
  · unfold spec_part.f
    rw [show IntKind.u64.wrap (wrap64 (24 - wrap64 (8 * 0))) = 24 by kernel_rfl, if_pos (by decide)]
    simp [shr, show IntKind.u32.bits = 32 from rfl]
  · unfold spec_part.f
    rw [show IntKind.u64.wrap (wrap64 (24 - wrap64 (8 * 1))) = 16 by kernel_rfl, if_pos (by decide)]
    simp [shr, show IntKind.u32.bits = 32 from rfl]
  · unfold spec_part.f
    rw [show IntKind.u64.wrap (wrap64 (24 - wrap64 (8 * 2))) = 8 by kernel_rfl, if_pos (by decide)]
    simp [shr, show IntKind.u32.bits = 32 from rfl]
  · unfold spec_part.f
    rw [show IntKind.u64.wrap (wrap64 (24 - wrap64 (8 * 3))) = 0 by kernel_rfl, if_pos (by decide)]
    simp [shr, show IntKind.u32.bits = 32 from rfl]
theorem words_is (x : Int) (_hx : 0 ≤ x ∧ x < 4294967296) : spec_Words.f x = some (be32 x) := by
  obtain ⟨h0, h1, h2, h3⟩ := part_at x
  unfold spec_Words.f
  rw [h0, h1, h2, h3]
  rfl
theorem wide_is (x : Int) : spec_Wide.f x = some (be64 x) := by
  unfold spec_Wide.f
  rw [words_is (x / 4294967296 % 4294967296) (by omega), words_is (x % 4294967296) (by omega)]
  rfl

def Acc (w0 W : World) (v : Value) (xs : List Int) : Prop := Kd.R (Kd.int .u8) 5 W w0.heap.size (fun _ => True) v xs ∧ Below w0.heap.size w0 W
def Pair (w0 W : World) (v : Value) (xs : List Int) (v' : Value) (ys : List Int) : Prop :=
  Kd.R (Kd.int .u8) 5 W w0.heap.size (fun k => some k ≠ v'.ownBlock) v xs ∧ Kd.R (Kd.int .u8) 5 W w0.heap.size (fun _ => True) v' ys ∧ Below w0.heap.size w0 W
/-- blocks of other types stay -/
def Keeps (W w1 : World) : Prop := ∀ (k : Nat) (cells : Array Value) (t : TypeId), t ≠ 5 → W.heap[k]? = some (.cells cells t (0, 0)) → w1.heap[k]? = some (.cells cells t (0, 0))

theorem Keeps.refl (W : World) : Keeps W W := fun _ _ _ _ h => h
theorem Keeps.trans {a b c : World} (h : Keeps a b) (k : Keeps b c) : Keeps a c := fun q cs t ht hq => k q cs t ht (h q cs t ht hq)
theorem Keeps.below {W w1 : World} (h : Below W.heap.size W w1) : Keeps W w1 := fun k _ _ _ hk => (h.block k (blk_lt hk)).trans hk
theorem Acc.step {w0 W w1 : World} {v : Value} {xs : List Int} (h : Acc w0 W v xs) (hb : Below W.heap.size W w1) : Acc w0 w1 v xs := ⟨Kd.R_below h.1 hb, below_step h.2 hb⟩

theorem Pair.mk {w0 W w1 : World} {v v' : Value} {xs ys : List Int} (h : Acc w0 W v xs) (h1 : Kd.R (Kd.int .u8) 5 w1 W.heap.size (fun _ => True) v' ys) (hb : Below W.heap.size W w1) : Pair w0 w1 v xs v' ys :=
  ⟨Kd.R_mono (Kd.R_elder' h.1 (Kd.R_base h1) hb) (fun _ hk => hk.2), Kd.R_lower h1 (below_size h.2), below_step h.2 hb⟩

theorem words_first {w0 W : World} (x : Int) (hx : 0 ≤ x ∧ x < 4294967296) (hB : Below w0.heap.size w0 W) :
    Calls Tryd.prog 19 #[.int .u32 x] W fun e w' => ∃ v, e = .returned v ∧ Acc w0 w' v (be32 x) ∧ Keeps W w' := by
  refine (spec_Words.calls x _ W (words_is x hx)).mono ?_
  rintro e w' ⟨v, rfl, h1, hb⟩
  exact ⟨v, rfl, ⟨Kd.R_lower h1 (below_size hB), below_step hB hb⟩, Keeps.below hb⟩
theorem words_next {w0 W : World} {v : Value} {xs : List Int} (x : Int) (hx : 0 ≤ x ∧ x < 4294967296) (h : Acc w0 W v xs) :
    Calls Tryd.prog 19 #[.int .u32 x] W fun e w' => ∃ v', e = .returned v' ∧ Pair w0 w' v xs v' (be32 x) ∧ Keeps W w' := by
  refine (spec_Words.calls x _ W (words_is x hx)).mono ?_
  rintro e w' ⟨v', rfl, h1, hb⟩
  exact ⟨v', rfl, Pair.mk h h1 hb, Keeps.below hb⟩
theorem wide_next {w0 W : World} {v : Value} {xs : List Int} (x : Int) (h : Acc w0 W v xs) :
    Calls Tryd.prog 20 #[.int .u64 x] W fun e w' => ∃ v', e = .returned v' ∧ Pair w0 w' v xs v' (be64 x) ∧ Keeps W w' := by
  refine (spec_Wide.calls x _ W (wide_is x)).mono ?_
  rintro e w' ⟨v', rfl, h1, hb⟩
  exact ⟨v', rfl, Pair.mk h h1 hb, Keeps.below hb⟩

section
variable {ops : Array Oper} {rest : List Oper} {o : Oper} {a : Act} {Q : Exit → Act → World → Prop}
theorem append_pair {w0 W : World} (hgd : o.guard = none) (s x : Operand) (ho : o.op = .call { callee := .builtin .append, args := #[s, x], argTypes := #[22, 22] })
    (v v' : Value) (xs ys : List Int) (hs : a.eval s = v) (hx : a.eval x = v') (hP : Pair w0 W v xs v' ys) (hl : xs.length + ys.length ≤ 140737488355328)
    (h : ∀ v1 w1, Acc w0 w1 v1 (xs ++ ys) → Keeps W w1 → wpList Tryd.prog ops Q rest (a.put o.dst v1) w1) : wpList Tryd.prog ops Q (o :: rest) a W := by
  obtain ⟨h1, h2, hB⟩ := hP
  obtain ⟨A, c, rfl⟩ := Kd.R_slice h2
  refine Kd.R_append_rows (Kd.int .u8) (w0 := w0) w0.heap.size hgd s x 22 5 (.int .u8 0) 1 ho Tryd.underlying22 info5 rfl (by decide) (by omega) v xs ys A ys.length c (fun k => some k ≠ (Value.slice A ys.length c).ownBlock) (fun _ => False) hs hx h1 (Kd.R_reads' h2).2.2 (fun _ _ h => h) (fun _ h => h.elim) (fun k hk => Kd.fresh' (Kd.R_lt h2) k hk) hB (below_size hB) (by omega) ?_
  intro v1 w1 ho1 hb hg hat
  refine h v1 w1 ⟨Kd.R_mono ho1 (fun _ _ => trivial), hb⟩ (fun k cells t ht hk => ?_)
  exact (hg.block k (blk_lt hk) (Kd.R_ne h1 hk (fun e => ht e.symm))).trans hk
theorem append_string {w0 W : World} (hgd : o.guard = none) (s x : Operand) (ho : o.op = .call { callee := .builtin .append, args := #[s, x], argTypes := #[22, 9] })
    (v : Value) (xs : List Int) (y : ByteArray) (hs : a.eval s = v) (hx : a.eval x = .string y) (hP : Acc w0 W v xs) (hl : xs.length + y.size ≤ 140737488355328)
    (h : ∀ v1 w1, Acc w0 w1 v1 (xs ++ bytesOf y) → Keeps W w1 → wpList Tryd.prog ops Q rest (a.put o.dst v1) w1) : wpList Tryd.prog ops Q (o :: rest) a W := by
  obtain ⟨h1, hB⟩ := hP
  refine print_append_str (w0 := w0) w0.heap.size hgd s x 22 9 5 ho Tryd.underlying22 Tryd.underlying9 info5 v xs y hs hx (Kd.own_of_R h1) hB (below_size hB) hl ?_
  intro v1 w1 ho1 hb hg
  refine h v1 w1 ⟨Kd.R_of_own (h1 := fun _ => rfl) (ok := fun _ => True) ho1 (fun _ _ => trivial), hb⟩ (fun k cells t ht hk => ?_)
  exact (hg.block k (blk_lt hk) (Kd.R_ne h1 hk (fun e => ht e.symm))).trans hk
theorem lit_pair {w0 W : World} (hgd : o.guard = none) {N : Tmp} (hd : o.dst = some N) (v : Value) (xs ys : List Int) (hP : Acc w0 W v xs)
    (hrun : (execOp a.eval o).run Tryd.prog W = .ok (.value (.slice (some ⟨W.heap.size, 0, none⟩) ys.length ys.length)) (W.alloc (.cells (nums .u8 ys).toArray 5))) (hm : ys.length ≤ 9223372036854775807)
    (h : ∀ v1 w1, Pair w0 w1 v xs v1 ys → Keeps W w1 → wpList Tryd.prog ops Q rest (a.put o.dst v1) w1) : wpList Tryd.prog ops Q (o :: rest) a W := by
  refine Kd.R_lit (Kd.int .u8) (w0 := W) W.heap.size 5 hgd (N := N) hd (xs := ys) (inner := nums .u8 ys) (ok := fun _ => True) (okp := fun _ => True) hrun (Kd.reps_scalar ys) (fun _ hk => hk) trivial (Below.refl _ _) (Nat.le_refl _) hm ?_
  intro v1 w1 ho1 hb hg _
  exact h v1 w1 (Pair.mk hP ho1 hb) (Keeps.below hb)
end
end Go.Proofs.YtodofpjdcongnaaDoor.Sign

/- A variable of whatever type as one step of the walk: its cells are not written out. -/
import Derived.Test.YtodofpjdcongnaaDoorStore
namespace Go.Proofs.YtodofpjdcongnaaDoor.Sign
open Go.RowKit Go.Proofs.YtodofpjdcongnaaDoorW.PrintWords

theorem alloc_any {P : Program} {ops : Array Oper} {rest : List Oper} {o : Oper} {a : Act} {Q : Exit → Act → World → Prop} {W : World} (hgd : o.guard = none) (N : Tmp) (hd : o.dst = some N) (t : TypeId) (ho : o.op = .alloc t) (hz : ((P.info? t).bind (·.zero)).isSome = true)
    (h : ∀ g, g = W.heap.size → ∀ w1, Below W.heap.size W w1 → wpList P ops Q rest (a.put o.dst (.pointer (some ⟨g, 0, none⟩))) w1) : wpList P ops Q (o :: rest) a W := by
  cases hi : P.info? t with
  | none => rw [hi] at hz; cases hz
  | some i =>
    rw [hi] at hz
    cases hq : i.zero with
    | none => rw [show (some i).bind (·.zero) = i.zero from rfl, hq] at hz; cases hz
    | some z =>
      have hrun : (execOp a.eval o).run P W = .ok (.value (.pointer (some ⟨W.heap.size, 0, none⟩))) (W.alloc (.cells z.cells t (0, 0))) := by
        unfold execOp
        simp only [ho]
        have e1 : (typeInfo t).run P W = .ok i W := by
          simp [typeInfo, hi, go_sem]
        simp [Instr.alloc, zeroValue, newVar, go_sem, e1, hq]
      exact box_event hgd hd hrun (fun g hg w1 _ hb => h g hg w1 hb)
end Go.Proofs.YtodofpjdcongnaaDoor.Sign

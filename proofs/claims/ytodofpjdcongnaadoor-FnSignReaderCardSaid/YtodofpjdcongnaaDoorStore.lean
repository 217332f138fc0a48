/- A struct that is stored whole into a block, as one step of the walk. -/
import Derived.Test.YtodofpjdcongnaaDoorSignB
namespace Go.Proofs.YtodofpjdcongnaaDoor.Sign
open Go.RowKit Go.Proofs.YtodofpjdcongnaaDoorW.PrintWords

theorem grown_cells (w : World) (G o : Nat) (seg : List Value) : w.grownBy (w.setCells G o seg) (some G) := by
  obtain ⟨h1, h2, h3, h4⟩ := setCells_same G seg o w
  exact ⟨h1, h2, h3, Nat.le_of_eq h4.symm, fun k _ hk => setCells_far seg o k (fun e => hk (by rw [e]))⟩

theorem store_all {P : Program} {ops : Array Oper} {rest : List Oper} {o : Oper} {a : Act} {Q : Exit → Act → World → Prop} {W : World} (hN : o.dst = none) (hgd : o.guard = none) (t : TypeId) (p x : Operand) (ho : o.op = .store t p x) (g : Nat) (cur : Array Value) (e : TypeId) (u : Value) (seg : List Value)
    (haddr : a.eval p = .pointer (some ⟨g, 0, none⟩)) (hx : a.eval x = u) (hu : u.cells.toList = seg) (ht : (P.info? t).map (·.size) = some seg.length) (h1 : ∀ q ∈ seg, q.oneCell' = true) (hh : W.heap[g]? = some (.cells cur e (0, 0))) (hcur : cur.size = seg.length)
    (h : ∀ w1, w1.heap[g]? = some (.cells seg.toArray e (0, 0)) → W.grownBy w1 (some g) → wpList P ops Q rest a w1) : wpList P ops Q (o :: rest) a W := by
  refine wpList_plain hgd fun K hK => ?_
  have hrun : (Instr.storeAt t (.pointer (some ⟨g, 0, none⟩)) u).run P W = .ok () (W.setCells g 0 seg) := run_store_run t u seg hh hu ht (by omega) h1
  obtain ⟨cur', h3, h4, h5⟩ := setCells_row seg 0 W cur hh (by omega)
  have e6 : cur' = seg.toArray := by
    apply Array.ext'
    rw [h5, List.drop_eq_nil_of_le (by rw [Array.length_toList]; omega)]
    simp
  unfold Oper.wp execOp
  simp only [ho, haddr, hx, Sem.run_bind, Sem.run_pure, Result.andThen_ok, hrun]
  show K (a.put o.dst undef) _
  rw [hN]
  refine hK a _ (h _ ?_ (grown_cells W g 0 seg))
  rw [h3, e6]

/-- the walk stands still here -/
def Stopped (p : Prop) : Prop := p
theorem stop_here {p : Prop} (h : Stopped p) : p := h

end Go.Proofs.YtodofpjdcongnaaDoor.Sign

/- Two blocks may have changed, and what is new. -/
import Derived.Test.YtodofpjdcongnaaDoorTa
namespace Go.Proofs.YtodofpjdcongnaaDoor.Sign
open Go.RowKit Go.Proofs.YtodofpjdcongnaaDoorW.PrintWords

structure Two (w w' : World) (G b : Nat) : Prop where
  os : w'.os = w.os
  tape : w'.tape = w.tape
  output : w'.output = w.output
  size : w.heap.size ≤ w'.heap.size
  block : ∀ k, k < w.heap.size → k ≠ G → k ≠ b → w'.heap[k]? = w.heap[k]?

theorem Two.grown {w a c : World} {G b r : Nat} (h : Two w a G b) (k : a.grownBy c (some r)) (hr : r = G ∨ r = b ∨ w.heap.size ≤ r) : Two w c G b :=
  ⟨k.os.trans h.os, k.tape.trans h.tape, k.output.trans h.output, Nat.le_trans h.size k.size, fun i hi h1 h2 => (k.block i (Nat.lt_of_lt_of_le hi h.size) (fun e => by injection e with e; omega)).trans (h.block i hi h1 h2)⟩
theorem Two.below {w a c : World} {G b : Nat} (h : Two w a G b) (k : Below a.heap.size a c) : Two w c G b :=
  ⟨k.os.trans h.os, k.tape.trans h.tape, k.output.trans h.output, Nat.le_trans h.size k.size, fun i hi h1 h2 => (k.block i (Nat.lt_of_lt_of_le hi h.size)).trans (h.block i hi h1 h2)⟩
theorem Two.refl (w : World) (G b : Nat) : Two w w G b := ⟨rfl, rfl, rfl, Nat.le_refl _, fun _ _ _ _ => rfl⟩
/-- both are new -/
theorem Two.new {w0 w w' : World} {G b : Nat} (hb : Below w0.heap.size w0 w) (h : Two w w' G b) (hG : w0.heap.size ≤ G) (hB : w0.heap.size ≤ b) : Below w0.heap.size w0 w' :=
  ⟨h.os.trans hb.os, h.tape.trans hb.tape, h.output.trans hb.output, Nat.le_trans hb.size h.size, fun i hi => (h.block i (Nat.lt_of_lt_of_le hi hb.size) (by omega) (by omega)).trans (hb.block i hi)⟩
end Go.Proofs.YtodofpjdcongnaaDoor.Sign

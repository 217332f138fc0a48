/- What a start says of the table and of the two errors of package io. -/
import Derived.Test.YtodofpjdcongnaaDoorRows
import Derived.Handed
import Derived.Stop.LaidErr
import Derived.Test.YtodofpjdcongnaaDoorLoopR
section
/- What a start's shape says of the table of crypto/sha256: sixty-four words, whichever. -/
namespace Go.Proofs.YtodofpjdcongnaaDoor.Sign
open Go

theorem table_start : ∃ zero : Array Value, ((begin Tryd.prog (fun _ _ => 0) default).world.heap[4]?).bind Obj.row? = some (zero, 43) ∧ zero.size = 64 := by
  refine ⟨Array.replicate 64 (.int .u32 0), ?_, ?_⟩
  · kernel_rfl
  · kernel_rfl

theorem table_row {W : World} (h : W.ShapedOpen Tryd.prog) : ∃ cs : Array Value, W.heap[4]? = some (.cells cs 43 (0, 0)) ∧ cs.size = 64 ∧ Row.ok Tryd.prog W .any 0 43 cs := by
  obtain ⟨zero, hz, hs⟩ := table_start
  obtain ⟨cs, h1, h2, h3⟩ := h.1 4 zero 43 (of_decide_eq_true (by kernel_rfl)) hz
  exact ⟨cs, h1, h2.trans hs, h3 (by kernel_rfl)⟩

theorem table_types : Tryd.prog.cellTypes Tryd.prog.depth 43 = some (List.replicate 64 34) := by kernel_rfl

theorem word_ok {P : Program} {t : TypeId} (hu : P.underlying t = some (.int .u32)) {W : World} {v : Value} (h : Cell.ok P W .any 0 t v) : ∃ x : Int, v = .int .u32 x ∧ 0 ≤ x ∧ x < 4294967296 := by
  unfold Cell.ok at h
  rw [hu] at h
  cases v with
  | int k n =>
    obtain ⟨rfl, hn⟩ := h
    refine ⟨n, rfl, ?_⟩
    simp [IntKind.has, IntKind.min, IntKind.max, IntKind.signed, IntKind.bits] at hn
    omega
  | _ => exact h.elim

set_option maxRecDepth 100000 in
theorem table_words {W : World} (h : W.ShapedOpen Tryd.prog) : ∃ cs : Array Value, W.heap[4]? = some (.cells cs 43 (0, 0)) ∧ ∀ i, i < 64 → ∃ x : Int, cs[i]? = some (.int .u32 x) ∧ 0 ≤ x ∧ x < 4294967296 := by
  obtain ⟨cs, h1, h2, ts, h3, _, h4⟩ := table_row h
  obtain rfl := Option.some.inj (table_types.symm.trans h3)
  refine ⟨cs, h1, fun i hi => ?_⟩
  have hi2 : i < cs.size := by omega
  have hv : cs[i]? = some cs[i] := Array.getElem?_eq_getElem hi2
  obtain ⟨u, hu, hc⟩ := h4 i _ hv
  have hu2 : u = 34 := 
     List.eq_of_mem_replicate (List.mem_of_getElem? hu)
  rw [hu2] at hc
  obtain ⟨x, hx, hb⟩ := word_ok (P := Tryd.prog) (t := 34) Tryd.underlying34 hc
  exact ⟨x, by rw [hv, hx], hb⟩

/-- A row's lift that hands the start's shape to the walk as well. -/
theorem returns_shaped {H : Type} {enc : TypeId × Value → H} {a : Assume} {C : Checked} {os : Os} {f : FuncId} {fn : Func} {s : ChangeSpec} {conds : List PathCond} {apart fresh handsOn again : Bool} {X : World → Array Value → Prop}
    (hX : ∀ (w w' : World) (args : Array Value), w.heap = w'.heap → X w args → X w' args)
    (own : ownKnob C.prog.godebug = none) (started : os.Started) (noInit : C.prog.inits.idxOf? f = none) (hfn : C.prog.funcs[f]? = some fn)
    (witness : ∃ (w : World) (tape : Tape) (i : Input), w.os = os ∧ (w.forCall tape i).Shaped C.prog ∧ i.vars = [] ∧ Input.okWide C.prog (w.forCall tape i) .any w.heap.size f i ∧
      ((s.pre enc C.prog fn conds apart (w.forCall tape i).memory i.args ∧ X (w.forCall tape i).memory i.args) ∧ sizedMet enc C.prog fn (OpenSpec.ofChange s) apart (w.forCall tape i).memory i.args) ∧ a.holds C.prog (lone (Frame.enter C.prog f i.args .normal) [] (w.forCall tape i)))
    (contract : ∀ (W : World) (base : Nat) (args : Array Value) (ds gs : List (DataW H)) (before : List MemPlace),
      (∀ (j : Nat) t v, fn.params[j]? = some t → args[j]? = some v → Value.okWide C.prog W .any base t v) →
      DataW.Whole enc C.prog fn.params.toList s.vars apart W args.toList ds gs before →
      (DataW.weightsEach C.prog (fn.params.toList ++ s.plain.varTypes C.prog) (ds ++ gs)).all (· ≤ reachBytes) = true → X W args → W.ShapedOpen C.prog →
      Calls C.prog f args W fun e W' => ∃ v, e = .returned v ∧ s.post enc C.prog fn apart fresh handsOn again W args v W') :
    ReturnsInHanded a C os f .any (fun w args => (s.pre enc C.prog fn conds apart w args ∧ X w args) ∧ sizedMet enc C.prog fn (OpenSpec.ofChange s) apart w args) (s.post enc C.prog fn apart fresh handsOn again) := by
  refine returnsInHanded_of_calls own started noInit witness ?_
  rintro w tape i - hsh - ⟨-, -, -, fn', hfn', -, -, -, -, hval⟩ ⟨⟨⟨ds, gs, before, hw, -⟩, hx⟩, hz⟩ -
  obtain rfl : fn' = fn := Option.some.inj (hfn'.symm.trans hfn)
  refine (contract (w.forCall tape i) w.heap.size i.args ds gs before hval (DataW.Whole.of_heap (w' := w.forCall tape i) (by rfl) hw) (hz.weights hw) (hX _ _ _ (by rfl) hx) hsh).mono ?_
  rintro e W' ⟨v, rfl, hp⟩
  exact ChangeSpec.post_blind hp
end Go.Proofs.YtodofpjdcongnaaDoor.Sign
end

section
/- The two errors of package io that the reader hands on: where they lie. -/
namespace Go.Proofs.YtodofpjdcongnaaDoor.Sign
open Go Go.RowKit Go.ChangeShapes

theorem sentinel_at {P : Program} {n nm : String} {text : List UInt8} {r : List (String × DataW Unit)} {W : World} {g : Nat} {ti tp te ts : TypeId} {ms : Array (String × TypeId)} {f : Field}
    (h : laidMet P ((n, .iface nm (.ptr (.agg [.lit (.string text)]))) :: r) W)
    (hg : P.globalNamed n = some g) (ht : (P.globals[g]?).map (·.type) = some ti) (hi : P.underlying ti = some (.interface ms)) (hrow : ∀ u, P.typeName? 3 u = some nm → u = tp)
    (hp : P.underlying tp = some (.pointer te)) (he : P.underlying te = some (.struct #[f])) (hft : f.type = ts) (hfo : f.offset = 0) (hs : P.underlying ts = some .string) (hc : P.cellsOf te = 1) (hcs : P.cellsOf ts = 1) :
    ∃ (a : Addr) (s : ByteArray), W.cell? ⟨g, 0, none⟩ = some (.iface tp (.pointer (some a))) ∧ W.cell? a = some (.string s) ∧ s.data.toList = text ∧ ∃ c t, W.heap[a.block]? = some (.cells c t (0, 0)) := by
  obtain ⟨ps, ⟨g0, t0, cs0, f0, p0, q0, hg0, ht0, hv0, hd0, _, e0⟩, _, hrows⟩ := h
  obtain rfl := Option.some.inj (hg.symm.trans hg0)
  obtain rfl := Option.some.inj (ht.symm.trans ht0)
  subst e0
  obtain ⟨l0⟩ := cs0
  have ok0 : ∀ u v, l0 = [.iface u v] → Value.okWide P W .any 0 u v := fun u v e => by
    subst e
    exact (hrows g 0 (by simp [MemPlace.row])).2 u v (by simpa using World.var?_cell hg0 hv0 0)
  obtain ⟨a0, s0, rfl, hc0, hs0, hz0, rfl⟩ := errorString_of_trod hi hrow hp he hft hfo hs hc hcs hd0 ok0
  exact ⟨a0, s0, by simpa using World.var?_cell hg hv0 0, hc0, hs0, (hrows a0.block a0.off (by simp [MemPlace.row])).1⟩

theorem star : "*" ++ "errors.errorString" = "*errors.errorString" := by decide
theorem row100 (u : TypeId) (h : Tryd.prog.typeName? 3 u = some "*errors.errorString") : u = 100 :=
  typeName_ptr_named (nm := "errors.errorString") (by rw [star]; kernel_rfl) (by kernel_rfl) (by decide) u (by rw [star]; exact h)

theorem er_start {W : World} (h : laidMet Tryd.prog Rows.fnSignReaderRow.laid W) : ∃ ae au, Er W ae au := by
  have h1 := laidMet.tail h
  have h2 := laidMet.tail h1
  obtain ⟨ae, s0, hc0, hs0, ht0, c0, t0, hb0⟩ := sentinel_at h1 (g := 0) (ti := 71) (tp := 100) (te := 129) (ts := 9) (by kernel_rfl) (by kernel_rfl) Tryd.underlying71 row100 Tryd.underlying100 Tryd.underlying129 rfl rfl Tryd.underlying9 (by kernel_rfl) (by kernel_rfl)
  obtain ⟨au, s1, hc1, hs1, ht1, c1, t1, hb1⟩ := sentinel_at h2 (g := 1) (ti := 71) (tp := 100) (te := 129) (ts := 9) (by kernel_rfl) (by kernel_rfl) Tryd.underlying71 row100 Tryd.underlying100 Tryd.underlying129 rfl rfl Tryd.underlying9 (by kernel_rfl) (by kernel_rfl)
  refine ⟨ae, au, hc0, hc1, ?_, ⟨c0, t0, hb0⟩, ⟨c1, t1, hb1⟩⟩
  rintro rfl
  rw [hs0] at hs1
  injection hs1 with hs1
  injection hs1 with hs1
  subst hs1
  rw [ht0] at ht1
  exact absurd ht1 (by decide)
end Go.Proofs.YtodofpjdcongnaaDoor.Sign
end

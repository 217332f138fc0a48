/- FnSignReader: for every input the law returns true, as the row says it. -/
import Derived.Test.YtodofpjdcongnaaDoorRows
import Derived.Test.YtodofpjdcongnaaDoorLawR
import Derived.Test.YtodofpjdcongnaaDoorErst
import Derived.ChangeSlices
import Derived.Handed
import Derived.ChangeSame
import Derived.ChangeVars
import Derived.LaidLaws
import Derived.JoinedOf
import Derived.WalkKit
import Derived.ProofKit
import Derived.OpenShut
import Derived.ShutString
import Derived.ChangeOld
import Derived.Below
import Derived.SizedLaws
namespace Go.Proofs.YtodofpjdcongnaaDoor.fnSignReader
open Go.ChangeShapes Go.WideShapes Go.ChangeAt Go.RowKit
open Go.ChangeMaps (open_string shut_string)
set_option linter.unusedVariables false
set_option linter.unusedSimpArgs false
theorem own : ownKnob Tryd.prog.godebug = none := by kernel_rfl
theorem laidOut : laidOutB Tryd.prog = true := by kernel_rfl
open Go.Proofs.YtodofpjdcongnaaDoorW.PrintWords in
/-- a slice of bytes that came in -/
theorem bytes_in {H : Type} {enc : TypeId × Value → H} {P : Program} {W : World} {t e : TypeId} {d : DataW H} {p : List MemPlace} {a : Option Addr} {len cap : Nat}
    (ht : P.underlying t = some (.slice e)) (he : P.underlying e = some (.int .u8)) (hc : P.cellsOf e = 1) (h : DataW.Trod enc P W 0 (fun _ => true) true t (.slice a len cap) d p) :
    ∃ q, ReadsInt W .u8 a len q ∧ Sign.B8 q ∧ len ≤ cap ∧ cap ≤ 9223372036854775807 := by
  obtain ⟨fuel, hf⟩ := h
  rcases open_ints ht he hc hf with ⟨hcs, hx⟩ | ⟨x, l, c, zs, hcs, _, hl, hm, hz, hx, hcell, hwf⟩
  · simp [Value.cells] at hcs
    obtain ⟨rfl, rfl, rfl⟩ := hcs
    exact ⟨[], ⟨rfl, by omega, fun h => absurd h (Nat.lt_irrefl 0)⟩, (fun y hy => absurd hy (List.not_mem_nil)), Nat.le_refl _, by omega⟩
  · simp [Value.cells] at hcs
    obtain ⟨rfl, rfl, rfl⟩ := hcs
    simp only [if_true] at hz
    have hlen : (zs.take len).length = len := by rw [List.length_take]; omega
    unfold maxLen at hm
    refine ⟨zs.take len, ⟨hlen, by omega, fun h => ⟨x, rfl, fun j hj => ?_⟩⟩, fun y hy => ?_, by omega, by omega⟩
    · rw [hcell j (by omega)]
      simp [List.getD_eq_getElem?_getD, show j < len by omega]
    · have h := hwf y (List.mem_of_mem_take hy)
      simp [Lit.wf, IntKind.min, IntKind.max, IntKind.signed, IntKind.bits] at h
      omega
open Go.Proofs.YtodofpjdcongnaaDoorW.PrintWords in
/-- the table, whatever it holds -/
theorem table_wd {W : World} (h : W.ShapedOpen Tryd.prog) : ∃ Kt, Sign.Wd W 43 4 Kt := by
  obtain ⟨cs, hb, hc⟩ := Sign.table_words h
  obtain ⟨cs2, hb2, hs2, _⟩ := Sign.table_row h
  have e : cs = cs2 := by
    rw [hb] at hb2
    injection hb2 with hb2
    injection hb2
  subst e
  refine ⟨cs.toList.map fun v => match v with | .int _ n => n | _ => 0, ?_, ?_⟩
  · rw [List.length_map, Array.length_toList]; exact hs2
  · rw [hb]
    congr 2
    apply Array.ext'
    apply List.ext_getElem?
    intro i
    rw [Sign.nums_at, List.getElem?_map]
    by_cases hi : i < 64
    · obtain ⟨x, hx, _⟩ := hc i hi
      have hx2 : cs.toList[i]? = some (.int .u32 x) := by simpa using hx
      rw [hx2]
      rfl
    · rw [List.getElem?_eq_none (by rw [Array.length_toList, hs2]; omega)]
      rfl
abbrev shortS : ByteArray := { data := #[115, 104, 111, 114, 116, 32, 98, 117, 102, 102, 101, 114] }
abbrev eofS : ByteArray := { data := #[69, 79, 70] }
abbrev unexpS : ByteArray := { data := #[117, 110, 101, 120, 112, 101, 99, 116, 101, 100, 32, 69, 79, 70] }
noncomputable def low : Nat := (World.holding Tryd.prog default ⟨#[], #[], []⟩).heap.size
/-- The settled world with the three errors of package io laid. -/
noncomputable def laidWorld (os : Os) : World :=
  let w0 := World.holding Tryd.prog os ⟨#[.cells #[.string shortS] 129, .cells #[.string eofS] 129, .cells #[.string unexpS] 129], #[], []⟩
  { w0 with heap := ((w0.heap.modify 2 fun
      | .cells _ t frozen => .cells #[.iface 100 (.pointer (some ⟨low, 0, none⟩))] t frozen
      | o => o).modify 0 fun
      | .cells _ t frozen => .cells #[.iface 100 (.pointer (some ⟨low + 1, 0, none⟩))] t frozen
      | o => o).modify 1 fun
      | .cells _ t frozen => .cells #[.iface 100 (.pointer (some ⟨low + 2, 0, none⟩))] t frozen
      | o => o }
theorem laidWorld_met (os : Os) (args : Array Value) : laidMet Tryd.prog Rows.fnSignReaderRow.laid ((laidWorld os).forCall (fun _ _ => 0) ⟨#[], args, []⟩).memory :=
  laidMet_of_run (ps := [.cell 2 0, .cell low 0, .cell 0 0, .cell (low + 1) 0, .cell 1 0, .cell (low + 2) 0]) 8 (by kernel_rfl) (by kernel_rfl) (by kernel_rfl)

set_option maxRecDepth 100000 in
theorem lifted (os : Os) (started : os.Started) (H : Type) (enc : TypeId × Value → H) :
    ReturnsInHanded {} Tryd.checked os 6 .any (fun w args => (Rows.fnSignReaderSpec.pre enc Tryd.prog Tryd.f6 Rows.fnSignReaderRow.domain false w args ∧ laidMet Tryd.prog Rows.fnSignReaderRow.laid w) ∧ sizedMet enc Tryd.prog Tryd.f6 (OpenSpec.ofChange Rows.fnSignReaderSpec) false w args)
      (Rows.fnSignReaderSpec.post enc Tryd.prog Tryd.f6 false true false false) := by
  refine Sign.returns_shaped (C := Tryd.checked) (X := fun w _ => laidMet Tryd.prog Rows.fnSignReaderRow.laid w) (fun _ _ _ hh h => h.of_heap hh) own started (by kernel_rfl) Tryd.func6
    (ChangeSpec.witness_at (enc := enc) (C := Tryd.checked) (os := os) (X := fun w _ => laidMet Tryd.prog Rows.fnSignReaderRow.laid w) false (laidWorld os) #[.slice none 0 0, .string ByteArray.empty, .int .i64 0, .int .i64 0, .bool false] 8 rfl (by kernel_rfl) (by kernel_rfl) (by kernel_rfl) (by kernel_rfl) (by kernel_rfl) (laidWorld_met os _)) ?_
  intro W base args ds gs before hval0 hW hsz0 hL hshape
  have hsz : (DataW.weightsEach Tryd.prog (Tryd.f6.params.toList ++ Rows.fnSignReaderSpec.plain.varTypes Tryd.prog) (ds ++ gs)).all (· ≤ reachBytes) = true := hsz0
  have hval : ∀ (j : Nat) t v, Tryd.f6.params[j]? = some t → args[j]? = some v → Value.okWide Tryd.prog W .any base t v := hval0
  have hW' := hW
  obtain ⟨p, q, hA0, hV, rfl, hfz, hnd⟩ := hW
  have hA : DataW.TrodAll enc Tryd.prog W 0 (fun _ => true) true Tryd.f6.params.toList args.toList ds p := hA0
  rw [Tryd.params6] at hA hval hsz
  obtain ⟨v0, vs0, d0, ds0, p0, q0, hargs, rfl, rfl, h0, r0⟩ := trodAll_cons hA
  obtain ⟨v1, vs1, d1, ds1, p1, q1, rfl, rfl, rfl, h1, r1⟩ := trodAll_cons r0
  obtain ⟨v2, vs2, d2, ds2, p2, q2, rfl, rfl, rfl, h2, r2⟩ := trodAll_cons r1
  obtain ⟨v3, vs3, d3, ds3, p3, q3, rfl, rfl, rfl, h3, r3⟩ := trodAll_cons r2
  obtain ⟨v4, vs4, d4, ds4, p4, q4, rfl, rfl, rfl, h4, r4⟩ := trodAll_cons r3
  obtain ⟨rfl, rfl, rfl⟩ := trodAll_nil r4
  obtain rfl : args = #[v0, v1, v2, v3, v4] := by cases args; simp_all
  obtain ⟨rfl, rfl⟩ := trodVars_none hV
  obtain ⟨a0, len0, cap0, rfl⟩ := okWide_slice Tryd.underlying22 (hval 0 22 v0 rfl rfl)
  have k0 := h0
  have lt0 : ∀ x ∈ p0, x.block < W.heap.size := by obtain ⟨m, hm⟩ := k0; exact DataW.trod_lt m _ _ _ hm
  obtain ⟨q0, c0, y0, l0, m0⟩ := bytes_in Tryd.underlying22 Tryd.underlying5 (by kernel_rfl) h0
  obtain ⟨Kt, tK⟩ := table_wd hshape
  obtain ⟨ae, au, hEr⟩ := Sign.er_start hL
  obtain ⟨a1, rfl, rfl, rfl, y1⟩ := open_string Tryd.underlying9 (hval 1 9 v1 rfl rfl) h1
  have w1 : a1.size ≤ 140737488351232 := by
    have z := sized_string hsz (j := 1) (t := 9) rfl rfl
    rw [Array.length_toList] at z
    exact z
  obtain ⟨a2, rfl, rfl, rfl, w2⟩ := open_int Tryd.underlying2 (hval 2 2 v2 rfl rfl) h2
  have b2 : -9223372036854775808 ≤ a2 ∧ a2 ≤ 9223372036854775807 := by simpa [Lit.wf, IntKind.min, IntKind.max, IntKind.signed, IntKind.bits] using w2
  obtain ⟨a3, rfl, rfl, rfl, w3⟩ := open_int Tryd.underlying2 (hval 3 2 v3 rfl rfl) h3
  have b3 : -9223372036854775808 ≤ a3 ∧ a3 ≤ 9223372036854775807 := by simpa [Lit.wf, IntKind.min, IntKind.max, IntKind.signed, IntKind.bits] using w3
  obtain ⟨a4, rfl, rfl, rfl⟩ := open_bool Tryd.underlying4 (hval 4 4 v4 rfl rfl) h4
  clear hA0 hval0 hsz0 hsz
  refine (Sign.law_reader len0 cap0 a0 q0 Kt ae au a1 a2 a3 a4 W b2 b3 c0.2.1 (by omega) l0 m0 c0 y0 tK hEr).mono fun e W' ⟨he, bel⟩ => ?_
  subst he
  exact ⟨_, rfl, _, _, _, [], _, [], hW', trodAll_mk1 (shut_bool Tryd.underlying4 _), (trodAll_cons_mk (Below.trod laidOut (by kernel_rfl) (of_decide_eq_true (by kernel_rfl)) k0 bel lt0) (trodAll_cons_mk (shut_string Tryd.underlying9 y1) (trodAll_cons_mk (shut_int Tryd.underlying2 w2) (trodAll_cons_mk (shut_int Tryd.underlying2 w3) (trodAll_cons_mk (shut_bool Tryd.underlying4 _) trodAll_mk0))))), rfl, bel.frame _, fun h => by cases h⟩
theorem over : Rows.fnSignReaderRow.holds Tryd.pinned (OpenSpec.ofChange Rows.fnSignReaderSpec) :=
  OpenClaim.holds_of_wide 6 Tryd.f6 rfl rfl rfl rfl rfl rfl rfl ⟨rfl, rfl, rfl, rfl, rfl⟩ rfl rfl rfl rfl rfl (by kernel_rfl) Tryd.func6 (by kernel_rfl)
    (of_decide_eq_true (by kernel_rfl)) (by unfold Func.isWrapper; first | (rw [if_pos (by decide +kernel)]; kernel_rfl) | (rw [if_neg (by decide +kernel)]; exact ⟨rfl, rfl⟩))
    (fun os started H enc _ => lifted os started H enc)
theorem proved : Rows.FnSignReaderSaid := over
end Go.Proofs.YtodofpjdcongnaaDoor.fnSignReader
namespace Go.Proofs.YtodofpjdcongnaaDoor
/-- The row, under a short name, for the claim. -/
theorem fnSignReader_holds : Rows.FnSignReaderSaid := fnSignReader.proved
end Go.Proofs.YtodofpjdcongnaaDoor


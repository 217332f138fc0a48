/- impl.ExpandArgs, ZZExpandArgs and expandArgs: the walks. -/
import Derived.Test.YtopmkiadoacipaaTab
import Derived.Deep.RegionLaw
import Derived.Maps.AppendAt
import Derived.Test.YtopmkiadoacipaaTable
import Derived.Test.YtopmkiadoacipaaPFnArgsExpandedx4
import Derived.BigQuiet
import Derived.Test.YtopmkiadoacipaaEnv
import Derived.Test.YtopmkiadoacipaaBuilder
section
/- append of a row as a step of a region that draws its order. -/
namespace Go.Proofs.Ytopmkiadoacipaa.Tab
open Go.RowKit Go.Proofs.YtopmkiadoacipaaW.PrintWords

section
variable {P : Program} {ops : Array Oper} {o : Oper} {a : Act} {K : Act → World → Prop} {Q : Exit → Act → World → Prop} {E : Prop} {α : Type}

theorem step_append_row {w0 W : World} (enc : α → Value) (d : α) (base : Nat) (hgd : o.guard = none) (s x : Operand) (t e : TypeId) (z : Value) (bytes : Nat)
    (ho : o.op = .call { callee := .builtin .append, args := #[s, x], argTypes := #[t, t] })
    (ht : P.underlying t = some (.slice e)) (hinfo : (P.info? e).map (fun i => (i.zero, i.size, i.bytes)) = some (some z, 1, bytes)) (hz : z.cells.size = 1) (hb0 : 0 < bytes) (h1 : ∀ x : α, (enc x).oneCell' = true)
    (v : Value) (xs ys : List α) (A : Option Addr) (m c : Nat) (hs : a.eval s = v) (hx : a.eval x = .slice A m c)
    (HO : W.ownsRow base e 1 v xs.length (encs enc xs)) (HR : ReadsOf enc d W A m ys) (HB : Below base w0 W) (hbase : base ≤ W.heap.size) (hl : (xs.length + m) * bytes ≤ 140737488355328)
    (h : ∀ v1 w1, w1.ownsRow base e 1 v1 (xs ++ ys).length (encs enc (xs ++ ys)) → Below base w0 w1 → W.grownBy w1 v.ownBlock → (v1.ownBlock = v.ownBlock ∨ ∃ b, v1.ownBlock = some b ∧ W.heap.size ≤ b) → K (a.put o.dst v1) w1) :
    if Region.wanted o (yielded ops a.tmps) = true then Oper.wp P o a W K Q else E := by
  have hw : Region.wanted o (yielded ops a.tmps) = true := by simp [Region.wanted, hgd]
  rw [if_pos hw]
  obtain ⟨i0, hi, hzz⟩ := Option.map_eq_some_iff.1 hinfo
  simp only [Prod.mk.injEq] at hzz
  obtain ⟨hz0, hz1, hz2⟩ := hzz
  have hm : ys.length = m := HR.1
  have hlen : xs.length + m ≤ 140737488355328 := Nat.le_trans (Nat.le_mul_of_pos_right _ hb0) hl
  have hrun : ∃ v1 w1, (Builtin.append_ #[t, t] o.type #[v, .slice A m c]).run P W = .ok v1 w1 ∧ w1.ownsRow base e 1 v1 (xs ++ ys).length (encs enc (xs ++ ys)) ∧ W.grownBy w1 v.ownBlock ∧ (v1.ownBlock = v.ownBlock ∨ v1.ownBlock = some W.heap.size) := by
    rcases A with _ | ad
    · have h0 : m = 0 := by
        rcases Nat.eq_zero_or_pos m with h0 | h0
        · exact h0
        · obtain ⟨ad, h, _⟩ := HR.2.2 h0
          cases h
      subst h0
      obtain rfl : ys = [] := List.eq_nil_of_length_eq_zero hm
      refine ⟨v, W, ?_, by simpa using HO, World.grownBy.refl W _, .inl rfl⟩
      rcases HO.2 with ⟨rfl, hn⟩ | ⟨g, cap, cur, rfl, _, _, hnc, _⟩
      · simp [Builtin.append_, run_underlying ht, sizeOf, typeInfo, hi, Builtin.lenOf, Builtin.firstCells]
      · simp [Builtin.append_, run_underlying ht, sizeOf, typeInfo, hi, Builtin.lenOf, Builtin.firstCells, hnc, storeCells]
    · have hcells : ∀ j u, (encs enc ys)[j]? = some u → W.cell? (ad.add j) = some u := by
        intro j u hu
        have hj : j < ys.length := by
          rcases Nat.lt_or_ge j ys.length with h | h
          · exact h
          · simp [encs, List.getElem?_eq_none h] at hu
        obtain ⟨ad', h', hc⟩ := HR.2.2 (by omega)
        injection h' with h'
        subst h'
        rw [encs_get (d := d) ys j hj] at hu
        rw [← hu]
        exact hc j (by omega)
      obtain ⟨v1, w1, hr, h2, h3, _, h5⟩ := run_append_own_at (P := P) W base t o.type e i0 z 1 bytes ht hi hz0 hz1 hz2 hz (by omega) v xs.length (encs enc xs) HO ad m c (encs enc ys) (by simp [encs, hm]) hcells
        (by intro u hu; simp only [encs, List.mem_map] at hu; obtain ⟨q, _, rfl⟩ := hu; exact h1 q) (by simp only [maxLen]; omega) hl hbase
      exact ⟨v1, w1, hr, by simpa [encs, hm] using h2, h3, h5⟩
  obtain ⟨v1, w1, hr, hown, hg, hat⟩ := hrun
  have hk := h v1 w1 hown (HB.grown hg hbase (own_base HO)) hg (by
    rcases hat with hat | hat
    · exact .inl hat
    · exact .inr ⟨_, hat, Nat.le_refl _⟩)
  unfold Oper.wp
  simp [execOp, ho, resolve, invoke, builtin, hs, hx, hr, Result.andThen]
  exact hk
end

end Go.Proofs.Ytopmkiadoacipaa.Tab
end

section
/- impl.ExpandArgs: the round over the pieces of one argument. -/
namespace Go.Proofs.Ytopmkiadoacipaa.Args
open Go.RowKit Go.Proofs.YtopmkiadoacipaaW.PrintWords Go.Proofs.Ytopmkiadoacipaa.Tab Go.Proofs.Ytopmkiadoacipaa.PFnArgsExpanded

theorem info9 : (Try.prog.info? 9).map (fun i => (i.zero, i.size, i.bytes)) = some (some (.string ⟨#[]⟩), 1, 16) := by kernel_rfl
theorem info4 : (Try.prog.info? 4).map (fun i => (i.zero, i.size, i.bytes)) = some (some (.bool false), 1, 1) := by kernel_rfl
theorem info24 : (Try.prog.info? 24).map (fun i => (i.zero, i.size, i.bytes)) = some (some (.slice none 0 0), 1, 24) := by kernel_rfl
theorem info58 : (Try.prog.info? 58).map (fun i => (i.zero, i.size, i.bytes)) = some (some (.slice none 0 0), 1, 24) := by kernel_rfl

theorem rd_at40 (l : List S40) (i : Nat) (h : i < l.length) : rd_T40 l (i : Int) = l[i] := by
  simp [rd_T40, List.getD_eq_getElem?_getD, h]
theorem rd_atL3 (l : List (List S40)) (i : Nat) (h : i < l.length) : rd_L3 l (i : Int) = l[i] := by
  simp [rd_L3, List.getD_eq_getElem?_getD, h]

/-- blocks from G on stay but the row that is written -/
theorem keep_from {W w1 : World} {v : Value} {G : Nat} (hg : W.grownBy w1 v.ownBlock) (hlt : ∀ k, v.ownBlock = some k → k < G) : ∀ (g o : Nat) (z : Value), G ≤ g → W.cell? ⟨g, o, none⟩ = some z → w1.cell? ⟨g, o, none⟩ = some z := by
  intro g o z hG hc
  have hl : g < W.heap.size := World.block_lt_of_cell? W _ hc
  exact (hg.cell_far ⟨g, o, none⟩ hl (fun e => by have := hlt g e.symm; omega)).trans hc

theorem reads_one {α : Type} {enc : α → Value} {d : α} {W : World} {g : Nat} {y : α} (h : W.cell? ⟨g, 0, none⟩ = some (enc y)) : ReadsOf enc d W (some ⟨g, 0, none⟩) 1 [y] :=
  ⟨rfl, by omega, fun _ => ⟨_, rfl, fun j hj => by
    obtain rfl : j = 0 := by omega
    rw [add_plain]; exact h⟩⟩

/-- two rows at once, one of texts and one of flags -/
def Bo (w : World) (base : Nat) (v : Value) (xs : List ByteArray) (u : Value) (ys : List Bool) : Prop :=
  w.ownsRow base 9 1 v xs.length (encs Value.string xs) ∧ w.ownsRow base 4 1 u ys.length (encs Value.bool ys)

section
variable {w w1 : World} {base : Nat} {v u : Value} {xs : List ByteArray} {ys : List Bool}
theorem Bo.alloc (h : Bo w base v xs u ys) (o : Obj) : Bo (w.alloc o) base v xs u ys := ⟨own_alloc h.1 o, own_alloc h.2 o⟩
theorem Bo.drew (h : Bo w base v xs u ys) : Bo w.drew base v xs u ys := ⟨own_drew h.1, own_drew h.2⟩
theorem Bo.drewN (h : Bo w base v xs u ys) (n : Nat) : Bo (w.drewN n) base v xs u ys := ⟨pw_own_drewN h.1 n, pw_own_drewN h.2 n⟩
theorem Bo.afterQ (h : Bo w base v xs u ys) (hg : w.grownBy w1 u.ownBlock) {u1 : Value} {zs : List Bool} (hO : w1.ownsRow base 4 1 u1 zs.length (encs Value.bool zs)) : Bo w1 base v xs u1 zs :=
  ⟨own_other h.1 hg (own_type_ne h.1 h.2 (by decide)), hO⟩
theorem Bo.afterT (h : Bo w base v xs u ys) (hg : w.grownBy w1 v.ownBlock) {v1 : Value} {zs : List ByteArray} (hO : w1.ownsRow base 9 1 v1 zs.length (encs Value.string zs)) : Bo w1 base v1 zs u ys :=
  ⟨hO, own_other h.2 hg (own_type_ne h.2 h.1 (by decide))⟩
end

end Go.Proofs.Ytopmkiadoacipaa.Args
end

section
/- expandArgs: each argument's pieces, those that are not quoted expanded, are put together. -/
namespace Go.Proofs.Ytopmkiadoacipaa.Args
open Go.RowKit Go.Proofs.YtopmkiadoacipaaW.PrintWords Go.Proofs.Ytopmkiadoacipaa.Tab Go.Proofs.Ytopmkiadoacipaa.Xp Go.Proofs.Ytopmkiadoacipaa.PFnArgsExpanded

theorem builder_below {T e B b : Nat} {bs : List Value} {w w1 : World} (h : Lib.IsBuilder T e B b bs w) (hb : Below w.heap.size w w1) : Lib.IsBuilder T e B b bs w1 := by
  have one : ∀ p, Lib.BuilderAt T e B b p bs w → Lib.BuilderAt T e B b p bs w1 := by
    intro p hp
    have hlt := hp.lt
    obtain ⟨hB, v, hv, hown, hne⟩ := hp
    exact ⟨hB, v, (hb.block b hlt).trans hv, pw_own_below hown hb, hne⟩
  exact h.elim (fun x => .inl (one _ x)) (fun x => .inr (one _ x))

/-- what a piece is behind the expansion -/
def Val (f : ByteArray → ByteArray) (p : S40) (o : ByteArray) : Prop :=
  (p.f1 = true ∧ o = p.f0) ∨ (p.f1 = false ∧ Ex f p.f0 0 o ∧ p.f0.size ≤ 35184372088832 ∧ o.size ≤ 70368744177664)

/-- pieces put together -/
def cat (val : S40 → ByteArray) : List S40 → ByteArray
  | [] => ByteArray.empty
  | p :: l => val p ++ cat val l

theorem cat_snoc (val : S40 → ByteArray) (l : List S40) (p : S40) : cat val (l ++ [p]) = cat val l ++ val p := by
  induction l with
  | nil => simp [cat]
  | cons q l ih => simp only [List.cons_append, cat, ih, ByteArray.append_assoc]

theorem cat_take (val : S40 → ByteArray) (l : List S40) (k : Nat) (h : k < l.length) : cat val (l.take (k + 1)) = cat val (l.take k) ++ val l[k] := by
  rw [List.take_succ_eq_append_getElem h, cat_snoc]

theorem cat_take_le (val : S40 → ByteArray) (l : List S40) (k : Nat) : (cat val (l.take k)).size ≤ (cat val l).size := by
  induction l generalizing k with
  | nil => simp [cat]
  | cons p l ih =>
    cases k with
    | zero => simp [cat]
    | succ k =>
      simp only [List.take_succ_cons, cat, ByteArray.size_append]
      have := ih k
      omega

/-- what the arguments become -/
def outs (val : S40 → ByteArray) (ls : List (List S40)) : List ByteArray := ls.map (cat val)

theorem outs_len (val : S40 → ByteArray) (ls : List (List S40)) (k : Nat) (h : k ≤ ls.length) : ((outs val ls).take k).length = k := by simp [outs]; omega
theorem outs_snoc (val : S40 → ByteArray) (ls : List (List S40)) (k : Nat) (h : k < ls.length) : (outs val ls).take (k + 1) = (outs val ls).take k ++ [cat val ls[k]] := by
  rw [List.take_succ_eq_append_getElem (by simpa [outs] using h)]; simp [outs]

set_option maxHeartbeats 8000000 in
set_option maxRecDepth 100000 in
theorem exp_args (gs b n gi ci cr : Nat) (f : ByteArray → ByteArray) (Ar : Option Addr) (ls : List (List S40)) (val : S40 → ByteArray) (w : World)
    (hs : w.cell? ⟨gs, 0, none⟩ = some (.map (some b))) (hm : MapIs w b n f) (hr : Kd.C (Kd.slice 40 k40) w Ar ls.length ls) (hl : ls.length ≤ 2147483647) (hll : ∀ l ∈ ls, l.length ≤ 2147483647)
    (hval : ∀ l ∈ ls, ∀ p ∈ l, Val f p (val p)) (hsz : ∀ l ∈ ls, (cat val l).size ≤ 140737488355328) :
    Calls Try.prog 36 #[.pointer (some ⟨gs, 0, none⟩), .slice Ar ls.length cr, .slice (some ⟨gi, 0, none⟩) 0 ci] w fun e w' => (∃ v, e = .returned v ∧ w'.ownsRow w.heap.size 9 1 v ls.length (encs Value.string (outs val ls))) ∧ Below w.heap.size w w' := by
  have hu70 := Try.underlying70
  obtain ⟨i9, hi9, hz9⟩ := Option.map_eq_some_iff.1 info9
  simp only [Prod.mk.injEq] at hz9
  obtain ⟨hz0, hz1, hz2⟩ := hz9
  have HS := Aside0.mk hs
  have HM := Aside0.mk hm
  have HR := Aside0.mk hr
  have HLL := Aside0.mk hll
  have HVAL := Aside0.mk hval
  have HSZ := Aside0.mk hsz
  clear hs hm hr hll hval hsz
  go_enter Try.func36, Try.ntmps36
  go_wp2_with (at_make; refine wpList_make_own _ rfl _ _ 24 rfl w.heap.size 9 i9 (.string ⟨#[]⟩) 1 Try.underlying24 hi9 hz0 hz1 .i64 .i64 (ls.length : Int) ls.length rfl rfl (by omega) (by rw [hz2]; omega) (by unfold maxLen; omega) (Nat.le_refl _) ?_; intro w2 hown2 hg2)
  have HO2 := Aside0.mk hown2
  have HB2 := Aside0.mk ((Below.refl w.heap.size w).grown hg2 (Nat.le_refl _) (fun _ h => by cases h))
  clear hown2 hg2
  go_loopw [7, 21] (fun v7 v21 wr => ∃ k : Nat, v21 = .int .i64 k ∧ k ≤ ls.length ∧ wr.ownsRow w.heap.size 9 1 v7 k (encs Value.string ((outs val ls).take k)) ∧ Below w.heap.size w wr) (fun _ v21 _ => ls.length - (intOf v21).toNat)
  case atStart => exact ⟨0, rfl, by omega, HO2.out, HB2.out⟩
  case round =>
    obtain ⟨wo, rfl⟩ : ∃ wo : World, wo = wr := ⟨_, rfl⟩
    obtain ⟨k, rfl, hk, hO, hB⟩ := hrel
    have HO := Aside0.mk hO
    have HB := Aside0.mk hB
    have HRo := Aside0.mk (Kd.C_below HR.out hB)
    have hso := hB.size
    clear hO hB
    by_cases hk0 : k < ls.length
    · have d0 : decide ((k : Int) < (ls.length : Int)) = true := decide_eq_true (by omega)
      obtain ⟨ad, A3, c3, e0, hx0, hc3, hK⟩ := at_L3 HRo.out (k : Int) (by omega) (by omega)
      have hrow : rd_L3 ls (k : Int) = ls[k] := rd_atL3 ls k hk0
      have hrl : ls[k].length ≤ 2147483647 := HLL.out _ (List.getElem_mem hk0)
      have hvr : ∀ p ∈ ls[k], Val f p (val p) := HVAL.out _ (List.getElem_mem hk0)
      have hsr := HSZ.out _ (List.getElem_mem hk0)
      have hsn := outs_snoc val ls k hk0
      obtain ⟨row, hr⟩ : ∃ row, row = ls[k] := ⟨_, rfl⟩
      rw [hrow, ← hr] at hx0 hK hc3
      rw [← hr] at hrl hvr hsr hsn
      have HK := Aside0.mk hK
      have HVR := Aside0.mk hvr
      have HSN := Aside0.mk hsn
      clear hr hrow hK hvr hsn
      cases e0
      simp only [Int.toNat_natCast] at hx0
      go_wp2_with fail
      refine wp_loop_rounds 1 ?_
      rw [rounds_succ]
      go_wp2_with fail
      have hbl := (Below.refl wo.heap.size wo).alloc (Nat.le_refl _) (.cells #[.pointer none, .slice none 0 0] 74)
      have HI0 := Aside0.mk (Lib.fresh_isBuilder 74 5 wo)
      have HBL := Aside0.mk hbl
      clear hbl hx0
      go_loopw [38] (fun v38 wi => ∃ q : Nat, v38 = .int .i64 q ∧ q ≤ row.length ∧ Lib.IsBuilder 74 5 wo.heap.size wo.heap.size (Lib.strCells (cat val (row.take q))) wi ∧ Below wo.heap.size wo wi) (fun v38 _ => row.length - (intOf v38).toNat)
      case atStart => exact ⟨0, rfl, by omega, HI0.out, HBL.out⟩
      case round =>
        obtain ⟨q, rfl, hq, hI, hBi⟩ := hrel
        have HI := Aside0.mk hI
        have HBi := Aside0.mk hBi
        have HKi := Aside0.mk (Kd.C_below HK.out hBi)
        have hsi := hBi.size
        clear hI hBi
        by_cases hq0 : q < row.length
        · have dq : decide ((q : Int) < (row.length : Int)) = true := decide_eq_true (by omega)
          obtain ⟨ad2, e2, hy0, hy1⟩ := at_T40 HKi.out (q : Int) (by omega) (by omega)
          have hct := cat_take val row q hq0
          have hcl := cat_take_le val row (q + 1)
          have hvp := HVR.out _ (List.getElem_mem hq0)
          obtain ⟨p, hp⟩ : ∃ p, p = rd_T40 row (q : Int) := ⟨_, rfl⟩
          have hpe : p = row[q] := by rw [hp, rd_at40 row q hq0]
          rw [← hp] at hy0 hy1
          rw [← hpe] at hct hvp
          clear hp hpe
          rw [hct, ByteArray.size_append] at hcl
          have HCT := Aside0.mk hct
          cases e2
          obtain ⟨t, m⟩ := p
          simp only [Int.toNat_natCast] at hy0 hy1
          have hba := HBi.out.alloc HBi.out.size (.cells #[.string t, .bool m] 70)
          have HBA := Aside0.mk hba
          have HIA := Aside0.mk (builder_below HI.out ((Below.refl _ wr).alloc (Nat.le_refl _) (.cells #[.string t, .bool m] 70)))
          clear hba hct
          rcases hvp with ⟨hm1, hv1⟩ | ⟨hm1, hv1, hv2, hv3⟩
          · have hm1' : m = true := hm1
            subst hm1'
            have hv1' : val ⟨t, true⟩ = t := hv1
            rw [hv1'] at hcl
            have HV := Aside0.mk hv1'
            clear hv1 hm1 hv1'
            go_wp2_with fail
            (with_reducible refine (Bld.write wo.heap.size wo.heap.size (Lib.strCells (cat val (row.take q))) t _ HIA.out (by rw [Lib.strCells_length]; omega) (by simp; omega)).mono ?_)
            rintro e w3 ⟨rfl, h3, b3⟩
            have H3 := Aside0.mk h3
            have HB3 := Aside0.mk (HBA.out.trans b3)
            clear h3 b3
            go_wp2_with fail
            go_roundw
            case rel => exact ⟨q + 1, by go_num, by omega, .inr (by rw [HCT.out, Buf.cells_append, HV.out]; exact H3.out), HB3.out⟩
            case measure => simp [intOf]; omega
          · have hm1' : m = false := hm1
            subst hm1'
            have HX := Aside0.mk (show Ex f t 0 (val ⟨t, false⟩) from hv1)
            have hv2' : t.size ≤ 35184372088832 := hv2
            obtain ⟨o, ho⟩ : ∃ o, o = val ⟨t, false⟩ := ⟨_, rfl⟩
            rw [← ho] at hcl hv3 HX
            have HV := Aside0.mk ho
            have hcs : (wr.alloc (.cells #[.string t, .bool false] 70)).cell? ⟨gs, 0, none⟩ = some (.map (some b)) := pw_cell_below (below_then HB.out hso HBA.out) HS.out
            have hmm : MapIs (wr.alloc (.cells #[.string t, .bool false] 70)) b n f := HM.out.kept (below_then HB.out hso HBA.out) HM.out.lt
            have HCS := Aside0.mk hcs
            have HMM := Aside0.mk hmm
            clear hv1 hv2 hm1 ho hcs hmm
            go_wp2_with fail
            (with_reducible refine (state_is gs b n f t o _ HCS.out HMM.out hv2' hv3 HX.out).mono ?_)
            rintro e w3 ⟨rfl, b3⟩
            have HB3 := Aside0.mk (below_then HBA.out HBA.out.size b3)
            have HI3 := Aside0.mk (builder_below HIA.out b3)
            clear b3
            go_wp2_with fail
            (with_reducible refine (Bld.write wo.heap.size wo.heap.size (Lib.strCells (cat val (row.take q))) o _ HI3.out (by rw [Lib.strCells_length]; omega) HB3.out.size).mono ?_)
            rintro e w4 ⟨rfl, h4, b4⟩
            have H4 := Aside0.mk h4
            have HB4 := Aside0.mk (HB3.out.trans b4)
            clear h4 b4
            go_wp2_with fail
            go_roundw
            case rel => exact ⟨q + 1, by go_num, by omega, .inr (by rw [HCT.out, Buf.cells_append, ← HV.out]; exact H4.out), HB4.out⟩
            case measure => simp [intOf]; omega
        · obtain rfl : q = row.length := by omega
          have dq : decide ((row.length : Int) < (row.length : Int)) = false := decide_eq_false (by omega)
          have hi := HI.out
          rw [List.take_length, Lib.strCells_eq] at hi
          have HI2 := Aside0.mk hi
          clear hi
          go_wp2_with fail
          (with_reducible refine (Try.Builder_String_any wo.heap.size wo.heap.size _ _ HI2.out hsi).mono ?_)
          rintro e w3 ⟨rfl, b3⟩
          have hb3 := HBi.out.trans b3
          have HB3 := Aside0.mk (below_then HB.out hso hb3)
          have HOB := Aside0.mk (pw_own_below HO.out hb3)
          have hlen := outs_len val ls k (by omega)
          have he : (⟨(cat val row).data.toList.toArray⟩ : ByteArray) = cat val row := by simp
          rw [he]
          have hO2 : w3.ownsRow w.heap.size 9 1 u7 ((outs val ls).take k).length (encs Value.string ((outs val ls).take k)) := by rw [hlen]; exact HOB.out
          have HO3 := Aside0.mk hO2
          have HLEN := Aside0.mk hlen
          clear b3 hb3 he hO2 hlen
          go_wp2_with (at_builtin; refine print_append_of (w0 := w) Value.string w.heap.size rfl (.tmp 54) (.tmp 56) 24 9 (.string ⟨#[]⟩) 16 rfl Try.underlying24 info9 rfl (by decide) u7 ((outs val ls).take k) (cat val row) rfl rfl rfl HO3.out HB3.out HB3.out.size (by rw [HLEN.out]; omega) ?_; intro v1 w4 hO4 hB4 hg4 _)
          have HO4 := Aside0.mk (show w4.ownsRow w.heap.size 9 1 v1 (k + 1) (encs Value.string ((outs val ls).take (k + 1))) by
            rw [HSN.out]
            have := hO4
            rwa [List.length_append, HLEN.out] at this)
          have HB4 := Aside0.mk hB4
          clear hO4 hB4 hg4
          go_roundw
          case rel => exact ⟨k + 1, by go_num, by omega, HO4.out, HB4.out⟩
          case measure => simp [intOf]; omega
    · obtain rfl : k = ls.length := by omega
      have d0 : decide ((ls.length : Int) < (ls.length : Int)) = false := decide_eq_false (by omega)
      have HOF := Aside0.mk (show wo.ownsRow w.heap.size 9 1 u7 ls.length (encs Value.string (outs val ls)) by
        have := HO.out
        rwa [List.take_of_length_le (by simp [outs])] at this)
      go_wp2_with fail
      go_ret
      exact ⟨⟨_, rfl, HOF.out⟩, HB.out⟩

end Go.Proofs.Ytopmkiadoacipaa.Args
end

section
/- ZZExpandArgs: texts and flags become fragments, which are expanded. -/
namespace Go.Proofs.Ytopmkiadoacipaa.Args
open Go.RowKit Go.Proofs.YtopmkiadoacipaaW.PrintWords Go.Proofs.Ytopmkiadoacipaa.Tab Go.Proofs.Ytopmkiadoacipaa.Xp Go.Proofs.Ytopmkiadoacipaa.PFnArgsExpanded

theorem info70 : (Try.prog.info? 70).map (fun i => (i.zero, i.size, i.bytes)) = some (some (.agg #[.string ⟨#[]⟩, .bool false]), 2, 24) := by kernel_rfl
theorem info68 : (Try.prog.info? 68).map (fun i => (i.zero, i.size, i.bytes)) = some (some (.slice none 0 0), 1, 24) := by kernel_rfl

/-- the texts of the pieces, and whether each is quoted -/
def tx (ls : List (List S40)) : List (List ByteArray) := ls.map fun l => l.map fun p => p.f0
def qx (ls : List (List S40)) : List (List Bool) := ls.map fun l => l.map fun p => p.f1

theorem at_row {α : Type} {d : Kd α} {e n : Nat} {w : World} {A : Option Addr} {xs : List (List α)} (h : (Kd.slice e d).C w A n xs) (i : Nat) (h1 : i < xs.length) (hn : xs.length = n) :
    ∃ ad A0 c0, A = some ad ∧ w.cell? (ad.add i) = some (.slice A0 xs[i].length c0) ∧ xs[i].length ≤ c0 ∧ d.C w A0 xs[i].length xs[i] := by
  obtain ⟨ad, c, e, _, hK, hc0⟩ := Kd.C_get h ([] : List α) (i : Int) (by omega) (by omega)
  have hg : xs.getD (i : Int).toNat ([] : List α) = xs[i] := by simp [List.getD_eq_getElem?_getD, h1]
  rw [hg] at hK
  have hc : ∀ j u, c[j]? = some u → w.cell? (ad.add ((i : Int).toNat * 1 + j)) = some u := hc0
  obtain ⟨A0, c0, rfl, l0, g0⟩ := hK
  exact ⟨ad, A0, c0, e, by have hq := hc 0 _ rfl; rwa [Nat.mul_one, Nat.add_zero, Int.toNat_natCast] at hq, l0, g0⟩

theorem map_fst (p : S40) : (⟨p.f0, p.f1⟩ : S40) = p := rfl

set_option maxHeartbeats 8000000 in
set_option maxRecDepth 100000 in
theorem zz_args (b n gi ci ct cq : Nat) (f : ByteArray → ByteArray) (At Aq : Option Addr) (ls : List (List S40)) (val : S40 → ByteArray) (w : World)
    (hm : MapIs w b n f) (ht : (Kd.slice 9 Kd.string).C w At ls.length (tx ls)) (hq : (Kd.slice 4 Kd.bool).C w Aq ls.length (qx ls)) (hl : ls.length ≤ 2147483647) (hll : ∀ l ∈ ls, l.length ≤ 2147483647)
    (hval : ∀ l ∈ ls, ∀ p ∈ l, Val f p (val p)) (hsz : ∀ l ∈ ls, (cat val l).size ≤ 140737488355328) :
    Calls Try.prog 32 #[.map (some b), .slice At ls.length ct, .slice Aq ls.length cq, .slice (some ⟨gi, 0, none⟩) 0 ci] w fun e w' => (∃ v, e = .returned v ∧ w'.ownsRow w.heap.size 9 1 v ls.length (encs Value.string (outs val ls))) ∧ Below w.heap.size w w' := by
  have hu70 := Try.underlying70
  have hu64 := Try.underlying64
  have HM := Aside0.mk hm
  have HT := Aside0.mk ht
  have HQ := Aside0.mk hq
  have HLL := Aside0.mk hll
  have HVAL := Aside0.mk hval
  have HSZ := Aside0.mk hsz
  clear hm ht hq hll hval hsz
  go_enter Try.func32, Try.ntmps32
  go_wp2_with fail
  go_loopw [9, 17] (fun v9 v17 wr => ∃ k : Nat, v17 = .int .i64 k ∧ k ≤ ls.length ∧ (Kd.slice 70 k40).R 68 wr w.heap.size (fun _ => True) v9 (ls.take k) ∧ Below w.heap.size w wr) (fun _ v17 _ => ls.length - (intOf v17).toNat)
  case atStart => exact ⟨0, rfl, by omega, Kd.R_nil _ _ _ _ _, Below.refl _ _⟩
  case round =>
    obtain ⟨wo, rfl⟩ : ∃ wo : World, wo = wr := ⟨_, rfl⟩
    obtain ⟨k, rfl, hk, hR, hB⟩ := hrel
    have HR := Aside0.mk hR
    have HB := Aside0.mk hB
    have HTo := Aside0.mk (Kd.C_below HT.out hB)
    have HQo := Aside0.mk (Kd.C_below HQ.out hB)
    have hso := hB.size
    clear hR hB
    by_cases hk0 : k < ls.length
    · have d0 : decide ((k : Int) < (ls.length : Int)) = true := decide_eq_true (by omega)
      obtain ⟨adt, A3, c3, e0, hx0, _, hK⟩ := at_row HTo.out k (by simpa [tx] using hk0) (by simp [tx])
      obtain ⟨adq, A4, c4, e4, hx4, _, hK4⟩ := at_row HQo.out k (by simpa [qx] using hk0) (by simp [qx])
      have e3 : (tx ls)[k]'(by simpa [tx] using hk0) = ls[k].map fun p => p.f0 := by simp [tx]
      have e5 : (qx ls)[k]'(by simpa [qx] using hk0) = ls[k].map fun p => p.f1 := by simp [qx]
      have hrl : ls[k].length ≤ 2147483647 := HLL.out _ (List.getElem_mem hk0)
      have hsn : ls.take (k + 1) = ls.take k ++ [ls[k]] := List.take_succ_eq_append_getElem hk0
      obtain ⟨row, hr⟩ : ∃ row, row = ls[k] := ⟨_, rfl⟩
      rw [e3, ← hr, List.length_map] at hx0 hK
      rw [e5, ← hr, List.length_map] at hx4 hK4
      rw [← hr] at hrl hsn
      have HK := Aside0.mk hK
      have HK4 := Aside0.mk hK4
      have HSN := Aside0.mk hsn
      clear hr hK hK4 hsn e3 e5
      cases e0
      cases e4
      have HX4 := Aside0.mk hx4
      clear hx4
      have HB0 := Aside0.mk (Below.refl wo.heap.size wo)
      go_wp2_with fail
      go_loopw [12, 24] (fun v12 v24 wi => ∃ q : Nat, v24 = .int .i64 q ∧ q ≤ row.length ∧ k40.R 70 wi wo.heap.size (fun _ => True) v12 (row.take q) ∧ Below wo.heap.size wo wi) (fun _ v24 _ => row.length - (intOf v24).toNat)
      case atStart => exact ⟨0, rfl, by omega, Kd.R_nil _ _ _ _ _, HB0.out⟩
      case round =>
        obtain ⟨q, rfl, hq, hI, hBi⟩ := hrel
        have HI := Aside0.mk hI
        have HBi := Aside0.mk hBi
        have hsi := hBi.size
        clear hI hBi
        by_cases hq0 : q < row.length
        · have dq : decide ((q : Int) < (row.length : Int)) = true := decide_eq_true (by omega)
          obtain ⟨ad1, f1, hy0⟩ := (Kd.reads_of_C (enc := Value.string) (d := ByteArray.empty) (h1 := fun _ => rfl) (Kd.C_below HK.out HBi.out)).at_ (q : Int) (by omega) (by omega)
          obtain ⟨ad2, f2, hy1⟩ := (Kd.reads_of_C (enc := Value.bool) (d := false) (h1 := fun _ => rfl) (Kd.C_below HK4.out HBi.out)).at_ (q : Int) (by omega) (by omega)
          have hx4 := pw_cell_below HBi.out HX4.out
          obtain ⟨p, hp⟩ : ∃ p, p = row[q] := ⟨_, rfl⟩
          have g0 : rdOf ByteArray.empty (row.map fun p => p.f0) (q : Int) = p.f0 := by rw [hp]; simp [rdOf, List.getD_eq_getElem?_getD, hq0]
          have g1 : rdOf false (row.map fun p => p.f1) (q : Int) = p.f1 := by rw [hp]; simp [rdOf, List.getD_eq_getElem?_getD, hq0]
          have hrt : row.take (q + 1) = row.take q ++ [p] := by rw [hp]; exact List.take_succ_eq_append_getElem hq0
          rw [g0] at hy0
          rw [g1] at hy1
          have HRT := Aside0.mk hrt
          clear hp g0 g1 hrt
          cases f1
          cases f2
          simp only [Int.toNat_natCast] at hy0 hy1
          obtain ⟨t, m⟩ := p
          have hqr : (row.take q).length ≤ 2147483647 := by rw [List.length_take]; omega
          go_wp2_with (at_builtin; refine Kd.R_append k40 (w0 := wo) wo.heap.size rfl (.tmp 29) (.tmp 39) 68 70 (.agg #[.string ⟨#[]⟩, .bool false]) 24 rfl Try.underlying68 info70 rfl (by decide) (by decide) u12 (row.take q) ⟨t, m⟩ [.string t, .bool m] (fun _ => True) (fun k => some k ≠ u12.ownBlock) rfl rfl (k40_mkM _ _ _ _) (fun _ h => ⟨trivial, h⟩) (fun _ _ => trivial) HI.out HBi.out HBi.out.size (by omega) ?_; intro v1 w1 hR1 hB1 hg1 _; have HR1 := Aside0.mk hR1; have HB1 := Aside0.mk hB1; clear hR1 hB1 hg1)
          go_roundw
          case rel => exact ⟨q + 1, by go_num, by omega, by rw [HRT.out]; exact HR1.out, HB1.out⟩
          case measure => simp [intOf]; omega
        · obtain rfl : q = row.length := by omega
          have dq : decide ((row.length : Int) < (row.length : Int)) = false := decide_eq_false (by omega)
          have hi := HI.out
          rw [List.take_length] at hi
          have hRr := Kd.R_below HR.out HBi.out
          have hBr := below_then HB.out hso HBi.out
          have HI2 := Aside0.mk (Kd.R_apartR (Kd.R_lower hi hso) hRr (by decide))
          have HRr := Aside0.mk hRr
          have HBr := Aside0.mk hBr
          have hqk : (ls.take k).length ≤ 2147483647 := by rw [List.length_take]; omega
          obtain ⟨A12, c12, rfl⟩ := Kd.R_slice hi
          clear hi hRr hBr
          go_wp2_with (at_builtin; refine Kd.R_append (Kd.slice 70 k40) (w0 := w) w.heap.size rfl (.tmp 42) (.tmp 44) 67 68 (.slice none 0 0) 24 rfl Try.underlying67 info68 rfl (by decide) (by decide) u9 (ls.take k) row [.slice A12 row.length c12] (fun _ => True) _ rfl rfl (Kd.M_row HI2.out) (fun _ h => h) (fun _ _ => trivial) HRr.out HBr.out HBr.out.size (by omega) ?_; intro v1 w1 hR1 hB1 hg1 _; have HR1 := Aside0.mk hR1; have HB1 := Aside0.mk hB1; clear hR1 hB1 hg1)
          go_roundw
          case rel => exact ⟨k + 1, by go_num, by omega, by rw [HSN.out]; exact HR1.out, HB1.out⟩
          case measure => simp [intOf]; omega
    · obtain rfl : k = ls.length := by omega
      have d0 : decide ((ls.length : Int) < (ls.length : Int)) = false := decide_eq_false (by omega)
      have hR2 := HR.out
      rw [List.take_length] at hR2
      obtain ⟨Ar, cr, rfl, _, hC⟩ := Kd.R_reads hR2
      have hbs := HB.out.alloc HB.out.size (.cells #[.map (some b)] 64)
      have hcs : (wo.alloc (.cells #[.map (some b)] 64)).cell? ⟨wo.heap.size, 0, none⟩ = some (.map (some b)) := by rw [World.cell?_alloc_at _ _ _ _ rfl]; rfl
      have hC4 : (Kd.slice 40 k40).C wo Ar ls.length ls := hC
      have HC := Aside0.mk (Kd.C_below hC4 ((Below.refl _ wo).alloc (Nat.le_refl _) (.cells #[.map (some b)] 64)))
      have HBS := Aside0.mk hbs
      have HCS := Aside0.mk hcs
      have HMS := Aside0.mk (HM.out.kept hbs HM.out.lt)
      clear hR2 hC hC4 hbs hcs
      go_wp2_with fail
      (with_reducible refine (exp_args wo.heap.size b n gi ci cr f Ar ls val _ HCS.out HMS.out HC.out hl HLL.out HVAL.out HSZ.out).mono ?_)
      rintro e w3 ⟨⟨v, rfl, hO3⟩, b3⟩
      have HO3 := Aside0.mk (own_less hO3 HBS.out.size)
      have HB3 := Aside0.mk (below_then HBS.out HBS.out.size b3)
      clear hO3 b3
      go_wp2_with fail
      go_ret
      exact ⟨⟨_, rfl, HO3.out⟩, HB3.out⟩

end Go.Proofs.Ytopmkiadoacipaa.Args
end

section
/- impl.ExpandArgs: the arguments as texts and as flags. -/
namespace Go.Proofs.Ytopmkiadoacipaa.Args
open Go.RowKit Go.Proofs.YtopmkiadoacipaaW.PrintWords Go.Proofs.Ytopmkiadoacipaa.Tab Go.Proofs.Ytopmkiadoacipaa.PFnArgsExpanded

abbrev RT (w : World) (base : Nat) (v : Value) (l : List (List ByteArray)) : Prop := (Kd.slice 9 Kd.string).R 24 w base (fun _ => True) v l
abbrev RQ (w : World) (base : Nat) (v : Value) (l : List (List Bool)) : Prop := (Kd.slice 4 Kd.bool).R 58 w base (fun _ => True) v l

theorem tk_len (ls : List (List S40)) (k : Nat) (h : k ≤ ls.length) : ((tx ls).take k).length = k := by simp [tx]; omega
theorem tq_len (ls : List (List S40)) (k : Nat) (h : k ≤ ls.length) : ((qx ls).take k).length = k := by simp [qx]; omega
theorem tk_snoc (ls : List (List S40)) (k : Nat) (h : k < ls.length) : (tx ls).take (k + 1) = (tx ls).take k ++ [ls[k].map fun p => p.f0] := by
  rw [List.take_succ_eq_append_getElem (by simpa [tx] using h)]; simp [tx]
theorem tq_snoc (ls : List (List S40)) (k : Nat) (h : k < ls.length) : (qx ls).take (k + 1) = (qx ls).take k ++ [ls[k].map fun p => p.f1] := by
  rw [List.take_succ_eq_append_getElem (by simpa [qx] using h)]; simp [qx]

set_option maxHeartbeats 8000000 in
set_option maxRecDepth 100000 in
theorem impl_args (A0 A1 A2 : Option Addr) (c0 c1 c2 : Nat) (l0 l1 : List ByteArray) (ls : List (List S40)) (w : World) (h0 : Rd w A0 l0.length l0) (h1 : Rd w A1 l1.length l1) (h2 : Kd.C (Kd.slice 40 k40) w A2 ls.length ls)
    (hl0 : l0.length ≤ 281474976710656) (hl1 : l1.length ≤ 281474976710656) (hs0 : ∀ s ∈ l0, s.size ≤ 281474976710656) (hs1 : ∀ s ∈ l1, s.size ≤ 281474976710656) (val : S40 → ByteArray)
    (hl : ls.length ≤ 2147483647) (hll : ∀ l ∈ ls, l.length ≤ 2147483647) (hval : ∀ l ∈ ls, ∀ p ∈ l, Val (tabv l0 l1) p (val p)) (hsz : ∀ l ∈ ls, (cat val l).size ≤ 140737488355328) :
    Calls Try.prog 23 #[.slice A0 l0.length c0, .slice A1 l1.length c1, .slice A2 ls.length c2, .slice none 0 0] w fun e w' => (∃ v, e = .returned v ∧ w'.ownsRow w.heap.size 9 1 v ls.length (encs Value.string (outs val ls))) ∧ Below w.heap.size w w' := by
  have hu40 := Try.underlying40
  have H0 := Aside0.mk h0
  have H1 := Aside0.mk h1
  have H2 := Aside0.mk h2
  have HLL := Aside0.mk hll
  have HS0 := Aside0.mk hs0
  have HS1 := Aside0.mk hs1
  have HVAL := Aside0.mk hval
  have HSZ := Aside0.mk hsz
  clear h0 h1 h2 hll hs0 hs1 hval hsz
  go_enter Try.func23, Try.ntmps23
  go_wp2_with fail
  go_loopw [9, 10, 19] (fun v9 v10 v19 wr => ∃ k : Nat, v19 = .int .i64 k ∧ k ≤ ls.length ∧ RT wr w.heap.size v9 ((tx ls).take k) ∧ RQ wr w.heap.size v10 ((qx ls).take k) ∧ Below w.heap.size w wr) (fun _ _ v19 _ => ls.length - (intOf v19).toNat)
  case atStart => exact ⟨0, rfl, by omega, Kd.R_nil _ _ _ _ _, Kd.R_nil _ _ _ _ _, Below.refl _ _⟩
  case round =>
    obtain ⟨wo, rfl⟩ : ∃ wo : World, wo = wr := ⟨_, rfl⟩
    obtain ⟨k, rfl, hk, hT, hQ, hB⟩ := hrel
    have HT := Aside0.mk hT
    have HQ := Aside0.mk hQ
    have HB := Aside0.mk hB
    have H2o := Aside0.mk (Kd.C_below H2.out hB)
    clear hT hQ hB
    by_cases hk0 : k < ls.length
    · have d0 : decide ((k : Int) < (ls.length : Int)) = true := decide_eq_true (by omega)
      obtain ⟨ad, A3, c3, e0, hx0, hc3, hK⟩ := at_L3 H2o.out (k : Int) (by omega) (by omega)
      have hrow : rd_L3 ls (k : Int) = ls[k] := rd_atL3 ls k hk0
      have hrl : ls[k].length ≤ 2147483647 := HLL.out _ (List.getElem_mem hk0)
      obtain ⟨row, hr⟩ : ∃ row, row = ls[k] := ⟨_, rfl⟩
      rw [hrow, ← hr] at hx0 hK hc3
      rw [← hr] at hrl
      have HRW := Aside0.mk hr
      have HK := Aside0.mk hK
      clear hr hrow hK
      cases e0
      simp only [Int.toNat_natCast] at hx0
      go_wp2_with fail
      have hbl := ((Below.refl wo.heap.size wo).alloc (Nat.le_refl _) (.cells #[] 9))
      have hbl2 := hbl.alloc hbl.size (.cells #[] 4)
      have hzl : (wo.alloc (.cells #[] 9)).heap.size = wo.heap.size + 1 := by simp
      have hbo : Bo ((wo.alloc (.cells #[] 9)).alloc (.cells #[] 4)) wo.heap.size (.slice (some ⟨wo.heap.size, 0, none⟩) 0 0) [] (.slice (some ⟨wo.heap.size + 1, 0, none⟩) 0 0) [] := by
        refine ⟨own_alloc (own_lit_of wo wo.heap.size 9 [] (Nat.le_refl _) (by simp)) _, ?_⟩
        have := own_lit_of (enc := Value.bool) (wo.alloc (.cells #[] 9)) wo.heap.size 4 [] hbl.size (by simp)
        rw [hzl] at this
        exact this
      have HBO := Aside0.mk hbo
      have HBL := Aside0.mk hbl2
      clear hbl hbl2 hzl hbo
      go_loopw [13, 14, 27] (fun v13 v14 v27 wi => ∃ q : Nat, v27 = .int .i64 q ∧ q ≤ row.length ∧ Bo wi wo.heap.size v13 ((row.map fun p => p.f0).take q) v14 ((row.map fun p => p.f1).take q) ∧ Below wo.heap.size wo wi) (fun _ _ v27 _ => row.length - (intOf v27).toNat)
      case atStart => exact ⟨0, rfl, by omega, HBO.out, HBL.out⟩
      case round =>
        obtain ⟨q, rfl, hq, hBo, hBi⟩ := hrel
        have HBo := Aside0.mk hBo
        have HBi := Aside0.mk hBi
        have HKi := Aside0.mk (Kd.C_below HK.out hBi)
        clear hBo hBi
        by_cases hq0 : q < row.length
        · have dq : decide ((q : Int) < (row.length : Int)) = true := decide_eq_true (by omega)
          obtain ⟨ad2, e2, hy0, hy1⟩ := at_T40 HKi.out (q : Int) (by omega) (by omega)
          obtain ⟨p, hp⟩ : ∃ p, p = rd_T40 row (q : Int) := ⟨_, rfl⟩
          have hpe : p = row[q] := by rw [hp, rd_at40 row q hq0]
          rw [← hp] at hy0 hy1
          have HPE := Aside0.mk hpe
          clear hp hpe
          cases e2
          obtain ⟨t, m⟩ := p
          simp only [Int.toNat_natCast] at hy0 hy1
          go_wp2_with fail
          obtain ⟨xs, hxs⟩ : ∃ xs, xs = (row.map fun p => p.f0).take q := ⟨_, rfl⟩
          obtain ⟨ys, hys⟩ : ∃ ys, ys = (row.map fun p => p.f1).take q := ⟨_, rfl⟩
          have hxl : xs.length ≤ 2147483647 := by rw [hxs]; simp; omega
          have hyl : ys.length ≤ 2147483647 := by rw [hys]; simp; omega
          have hbo := HBo.out
          rw [← hxs, ← hys] at hbo
          have HXS := Aside0.mk hxs
          have HYS := Aside0.mk hys
          have hl13 := own_lt hbo.1
          have hl14 := own_lt hbo.2
          have HL13 := Aside0.mk hl13
          have HL14 := Aside0.mk hl14
          obtain ⟨wa, hwa⟩ : ∃ wa : World, wa = wr.alloc (.cells #[.string t, .bool m] 40) := ⟨_, rfl⟩
          have hba := hbo.alloc (.cells #[.string t, .bool m] 40)
          have hca := HBi.out.alloc HBi.out.size (.cells #[.string t, .bool m] 40)
          have hc0 : wa.cell? ⟨wr.heap.size, 0, none⟩ = some (.string t) := by rw [hwa, World.cell?_alloc_at _ _ _ _ rfl]; rfl
          have hc1 : wa.cell? ⟨wr.heap.size, 1, none⟩ = some (.bool m) := by rw [hwa, World.cell?_alloc_at _ _ _ _ rfl]; rfl
          have hzl : wr.heap.size < wa.heap.size := by rw [hwa]; simp
          rw [← hwa] at hba hca ⊢
          have HBA := Aside0.mk hba
          have HCA := Aside0.mk hca
          have HXT : Aside0 ((row.map fun p => p.f0).take (q + 1) = xs ++ [t]) := Aside0.mk (by
            rw [List.take_succ_eq_append_getElem (by simpa using hq0), ← hxs, List.getElem_map, ← HPE.out])
          have HYT : Aside0 ((row.map fun p => p.f1).take (q + 1) = ys ++ [m]) := Aside0.mk (by
            rw [List.take_succ_eq_append_getElem (by simpa using hq0), ← hys, List.getElem_map, ← HPE.out])
          clear hwa hba hca hbo hxs hys hl13 hl14
          go_region_law (first
            | (refine step_append_row (w0 := wo) Value.string ByteArray.empty wo.heap.size rfl (.tmp 31) (.tmp 34) 24 9 (.string ⟨#[]⟩) 16 rfl Try.underlying24 info9 rfl (by decide) (fun _ => rfl) u13 xs [t] _ 1 1 rfl rfl (by first | exact (HBA.out.alloc _).1 | exact ((HBA.out.alloc _).alloc _).1 | exact HBA.out.1 | exact (HBA.out.alloc _).drew.1 | exact ((HBA.out.alloc _).alloc _).drew.1 | exact HBA.out.drew.1) (reads_one (by go_simp; done)) (by first | exact HCA.out.alloc HCA.out.size _ | exact (HCA.out.alloc HCA.out.size _).alloc (HCA.out.alloc HCA.out.size _).size _ | exact HCA.out | exact below_drew1 (HCA.out.alloc HCA.out.size _) | exact below_drew1 ((HCA.out.alloc HCA.out.size _).alloc (HCA.out.alloc HCA.out.size _).size _) | exact below_drew1 HCA.out) (Below.size (by first | exact HCA.out.alloc HCA.out.size _ | exact (HCA.out.alloc HCA.out.size _).alloc (HCA.out.alloc HCA.out.size _).size _ | exact HCA.out | exact below_drew1 (HCA.out.alloc HCA.out.size _) | exact below_drew1 ((HCA.out.alloc HCA.out.size _).alloc (HCA.out.alloc HCA.out.size _).size _) | exact below_drew1 HCA.out)) (by omega) ?_; intro v1 w1 hO1 hB1 hg1 _
               have hk1 := keep_from hg1 HL13.out
               have B1 : Bo w1 wo.heap.size v1 (xs ++ [t]) u14 ys := Bo.afterT (by first | exact HBA.out.alloc _ | exact (HBA.out.alloc _).alloc _ | exact HBA.out | exact (HBA.out.alloc _).drew | exact ((HBA.out.alloc _).alloc _).drew | exact HBA.out.drew) hg1 hO1
               have hd1 := hk1 wr.heap.size 1 (.bool m) (Nat.le_refl _) (by go_simp))
            | (refine step_append_row (w0 := wo) Value.bool false wo.heap.size rfl (.tmp 36) (.tmp 39) 58 4 (.bool false) 1 rfl Try.underlying58 info4 rfl (by decide) (fun _ => rfl) u14 ys [m] _ 1 1 rfl rfl (by first | exact (B1.alloc _).2 | exact ((B1.alloc _).alloc _).2 | exact B1.2 | exact (B1.alloc _).drew.2 | exact ((B1.alloc _).alloc _).drew.2 | exact B1.drew.2) (reads_one (by first | exact hk1 _ _ _ (by omega) (by go_simp; done) | (go_simp; done))) (by first | exact hB1.alloc hB1.size _ | exact (hB1.alloc hB1.size _).alloc (hB1.alloc hB1.size _).size _ | exact hB1 | exact below_drew1 (hB1.alloc hB1.size _) | exact below_drew1 ((hB1.alloc hB1.size _).alloc (hB1.alloc hB1.size _).size _) | exact below_drew1 hB1) (Below.size (by first | exact hB1.alloc hB1.size _ | exact (hB1.alloc hB1.size _).alloc (hB1.alloc hB1.size _).size _ | exact hB1 | exact below_drew1 (hB1.alloc hB1.size _) | exact below_drew1 ((hB1.alloc hB1.size _).alloc (hB1.alloc hB1.size _).size _) | exact below_drew1 hB1)) (by omega) ?_; intro v2 w2 hO2 hB2 hg2 _
               have HF := Aside0.mk (And.intro (Bo.afterQ (by first | exact B1.alloc _ | exact (B1.alloc _).alloc _ | exact B1 | exact (B1.alloc _).drew | exact ((B1.alloc _).alloc _).drew | exact B1.drew) hg2 hO2) hB2))
            | (refine step_append_row (w0 := wo) Value.bool false wo.heap.size rfl (.tmp 36) (.tmp 39) 58 4 (.bool false) 1 rfl Try.underlying58 info4 rfl (by decide) (fun _ => rfl) u14 ys [m] _ 1 1 rfl rfl (by first | exact (HBA.out.alloc _).2 | exact ((HBA.out.alloc _).alloc _).2 | exact HBA.out.2 | exact (HBA.out.alloc _).drew.2 | exact ((HBA.out.alloc _).alloc _).drew.2 | exact HBA.out.drew.2) (reads_one (by go_simp; done)) (by first | exact HCA.out.alloc HCA.out.size _ | exact (HCA.out.alloc HCA.out.size _).alloc (HCA.out.alloc HCA.out.size _).size _ | exact HCA.out | exact below_drew1 (HCA.out.alloc HCA.out.size _) | exact below_drew1 ((HCA.out.alloc HCA.out.size _).alloc (HCA.out.alloc HCA.out.size _).size _) | exact below_drew1 HCA.out) (Below.size (by first | exact HCA.out.alloc HCA.out.size _ | exact (HCA.out.alloc HCA.out.size _).alloc (HCA.out.alloc HCA.out.size _).size _ | exact HCA.out | exact below_drew1 (HCA.out.alloc HCA.out.size _) | exact below_drew1 ((HCA.out.alloc HCA.out.size _).alloc (HCA.out.alloc HCA.out.size _).size _) | exact below_drew1 HCA.out)) (by omega) ?_; intro v1 w1 hO1 hB1 hg1 _
               have hk1 := keep_from hg1 HL14.out
               have B1 : Bo w1 wo.heap.size u13 xs v1 (ys ++ [m]) := Bo.afterQ (by first | exact HBA.out.alloc _ | exact (HBA.out.alloc _).alloc _ | exact HBA.out | exact (HBA.out.alloc _).drew | exact ((HBA.out.alloc _).alloc _).drew | exact HBA.out.drew) hg1 hO1
               have hd1 := hk1 wr.heap.size 0 (.string t) (Nat.le_refl _) (by go_simp))
            | (refine step_append_row (w0 := wo) Value.string ByteArray.empty wo.heap.size rfl (.tmp 31) (.tmp 34) 24 9 (.string ⟨#[]⟩) 16 rfl Try.underlying24 info9 rfl (by decide) (fun _ => rfl) u13 xs [t] _ 1 1 rfl rfl (by first | exact (B1.alloc _).1 | exact ((B1.alloc _).alloc _).1 | exact B1.1 | exact (B1.alloc _).drew.1 | exact ((B1.alloc _).alloc _).drew.1 | exact B1.drew.1) (reads_one (by first | exact hk1 _ _ _ (by omega) (by go_simp; done) | (go_simp; done))) (by first | exact hB1.alloc hB1.size _ | exact (hB1.alloc hB1.size _).alloc (hB1.alloc hB1.size _).size _ | exact hB1 | exact below_drew1 (hB1.alloc hB1.size _) | exact below_drew1 ((hB1.alloc hB1.size _).alloc (hB1.alloc hB1.size _).size _) | exact below_drew1 hB1) (Below.size (by first | exact hB1.alloc hB1.size _ | exact (hB1.alloc hB1.size _).alloc (hB1.alloc hB1.size _).size _ | exact hB1 | exact below_drew1 (hB1.alloc hB1.size _) | exact below_drew1 ((hB1.alloc hB1.size _).alloc (hB1.alloc hB1.size _).size _) | exact below_drew1 hB1)) (by omega) ?_; intro v2 w2 hO2 hB2 hg2 _
               have HF := Aside0.mk (And.intro (Bo.afterT (by first | exact B1.alloc _ | exact (B1.alloc _).alloc _ | exact B1 | exact (B1.alloc _).drew | exact ((B1.alloc _).alloc _).drew | exact B1.drew) hg2 hO2) hB2)))
          all_goals go_wp2_with fail
          all_goals go_roundw
          all_goals first
            | exact ⟨q + 1, by go_num, by omega, by rw [HXT.out, HYT.out]; exact HF.out.1, HF.out.2⟩
            | (simp [intOf]; omega)
        · obtain rfl : q = row.length := by omega
          have dq : decide ((row.length : Int) < (row.length : Int)) = false := decide_eq_false (by omega)
          have hf0 : (row.map fun p => p.f0).take row.length = row.map fun p => p.f0 := List.take_of_length_le (by simp)
          have hf1 : (row.map fun p => p.f1).take row.length = row.map fun p => p.f1 := List.take_of_length_le (by simp)
          have hbo := HBo.out
          rw [hf0, hf1] at hbo
          have hwo := HB.out.size
          have hT13 : Kd.string.R 9 wr w.heap.size (fun _ => True) u13 (row.map fun p => p.f0) := Kd.R_lower (Kd.R_of_own hbo.1 (fun _ _ => trivial)) hwo
          have hT14 : Kd.bool.R 4 wr w.heap.size (fun _ => True) u14 (row.map fun p => p.f1) := Kd.R_lower (Kd.R_of_own hbo.2 (fun _ _ => trivial)) hwo
          have hTr := Kd.R_below HT.out HBi.out
          have hQr := Kd.R_below HQ.out HBi.out
          have hBr := below_then HB.out hwo HBi.out
          have HT13 := Aside0.mk (Kd.R_apartR hT13 hTr (by decide))
          have HT14 := Aside0.mk (Kd.R_apartR hT14 hTr (by decide))
          have HQA := Aside0.mk (Kd.R_apartR hQr hTr (by decide))
          have HTr := Aside0.mk hTr
          have HBr := Aside0.mk hBr
          have hlt := tk_len ls k (by omega)
          have hlq := tq_len ls k (by omega)
          have HLT := Aside0.mk hlt
          have HLQ := Aside0.mk hlq
          have hbo1 := hbo.1
          have hbo2 := hbo.2
          rw [List.length_map] at hbo1 hbo2
          obtain ⟨A13, c13, rfl⟩ := own_slice hbo1
          obtain ⟨A14, c14, rfl⟩ := own_slice hbo2
          clear hbo1 hbo2
          clear hf0 hf1 hbo hT13 hT14 hTr hQr hBr hlt hlq
          go_wp2_with (first
            | (at_builtin; refine Kd.R_append (Kd.slice 9 Kd.string) (w0 := w) w.heap.size rfl (.tmp 42) (.tmp 44) 56 24 (.slice none 0 0) 24 rfl Try.underlying56 info24 rfl (by decide) (by decide) u9 ((tx ls).take k) (row.map fun p => p.f0) [.slice A13 row.length c13] (fun _ => True) _ rfl rfl (Kd.M_row HT13.out) (fun _ h => h) (fun _ _ => trivial) HTr.out HBr.out HBr.out.size (by rw [HLT.out]; omega) ?_; intro v1 w1 hR1 hB1 hg1 _
               have HR1 := Aside0.mk hR1
               have HB1 := Aside0.mk hB1
               have hQ1 := Kd.R_grown HQA.out hg1 (fun _ h => h.2)
               have hT1 := Kd.R_grown HT14.out hg1 (fun _ h => h.2)
               have HQ1 := Aside0.mk (Kd.R_drop hQ1)
               have HT1 := Aside0.mk (Kd.R_apartR (Kd.R_drop hT1) (Kd.R_drop hQ1) (by decide))
               have HRQ := Aside0.mk (Kd.R_apartR hR1 (Kd.R_drop hQ1) (by decide))
               clear hR1 hB1 hg1 hQ1 hT1)
            | (at_builtin; refine Kd.R_append (Kd.slice 4 Kd.bool) (w0 := w) w.heap.size rfl (.tmp 46) (.tmp 48) 57 58 (.slice none 0 0) 24 rfl Try.underlying57 info58 rfl (by decide) (by decide) u10 ((qx ls).take k) (row.map fun p => p.f1) [.slice A14 row.length c14] (fun _ => True) _ rfl rfl (Kd.M_row HT1.out) (fun _ h => h) (fun _ _ => trivial) HQ1.out HB1.out HB1.out.size (by rw [HLQ.out]; omega) ?_; intro v2 w2 hR2 hB2 hg2 _
               have HR2 := Aside0.mk hR2
               have HB2 := Aside0.mk hB2
               have HR3 := Aside0.mk (Kd.R_drop (Kd.R_grown HRQ.out hg2 (fun _ h => h.2)))
               clear hR2 hB2 hg2))
          go_roundw
          case rel => exact ⟨k + 1, by go_num, by omega, by rw [tk_snoc ls k hk0, ← HRW.out]; exact HR3.out, by rw [tq_snoc ls k hk0, ← HRW.out]; exact HR2.out, HB2.out⟩
          case measure => simp [intOf]; omega
    · obtain rfl : k = ls.length := by omega
      have d0 : decide ((ls.length : Int) < (ls.length : Int)) = false := decide_eq_false (by omega)
      have hT2 := HT.out
      have hQ2 := HQ.out
      rw [List.take_of_length_le (by simp [tx])] at hT2
      rw [List.take_of_length_le (by simp [qx])] at hQ2
      obtain ⟨AT, cT, hv9, _, hTC⟩ := Kd.R_reads hT2
      obtain ⟨AQ, cQ, hv10, _, hQC⟩ := Kd.R_reads hQ2
      rw [show (tx ls).length = ls.length by simp [tx]] at hv9 hTC
      rw [show (qx ls).length = ls.length by simp [qx]] at hv10 hQC
      subst hv9 hv10
      have HTC := Aside0.mk hTC
      have HQC := Aside0.mk hQC
      have HBW := Aside0.mk (Below.refl wo.heap.size wo)
      clear hT2 hQ2 hTC hQC
      go_wp2_with fail
      have ha := (Below.refl wo.heap.size wo).alloc (Nat.le_refl _) (.cells #[] 9)
      have HA := Aside0.mk ha
      have HW0 := Aside0.mk (H0.out.below (below_then HB.out HB.out.size ha))
      have HW1 := Aside0.mk (H1.out.below (below_then HB.out HB.out.size ha))
      clear ha
      (with_reducible refine (table_is A0 A1 c0 c1 l0 l1 _ HW0.out HW1.out hl0 hl1 HS0.out HS1.out).mono ?_)
      rintro e w1 ⟨rfl, hm, hb⟩
      have hl9 : (wo.alloc (.cells #[] 9)).ownsRow w.heap.size 9 1 (.slice (some ⟨wo.heap.size, 0, none⟩) 0 0) ([] : List ByteArray).length (encs Value.string []) := own_lit_of wo w.heap.size 9 [] HB.out.size (by simp)
      obtain ⟨g, hg⟩ : ∃ g, g = (wo.alloc (.cells #[] 9)).heap.size := ⟨_, rfl⟩
      have hl9b := pw_own_below hl9 hb
      have hbA := below_then HA.out HA.out.size hb
      rw [← hg] at hm ⊢
      have hbi := hbA.alloc hbA.size (.cells #[] 3)
      have h1i : Below w1.heap.size w1 (w1.alloc (.cells #[] 3)) := (Below.refl _ w1).alloc (Nat.le_refl _) _
      have HM1 := Aside0.mk (hm.kept h1i hm.lt)
      have HL9 := Aside0.mk (pw_own_below hl9b h1i)
      have HBI := Aside0.mk (below_then HB.out HB.out.size hbi)
      have HTI := Aside0.mk (Kd.C_below HTC.out hbi)
      have HQI := Aside0.mk (Kd.C_below HQC.out hbi)
      clear hg hl9 hl9b hbA hb hm hbi h1i
      go_wp2_with fail
      (with_reducible refine (zz_args g l0.length w1.heap.size 0 cT cQ (tabv l0 l1) AT AQ ls val _ HM1.out HTI.out HQI.out hl HLL.out HVAL.out HSZ.out).mono ?_)
      rintro e w3 ⟨⟨v, rfl, hO3⟩, b3⟩
      have hBI3 := below_then HBI.out HBI.out.size b3
      have hl93 := pw_own_below HL9.out b3
      have hO3b := own_less hO3 HBI.out.size
      obtain ⟨Av, cv, rfl⟩ := own_slice hO3b
      have hrd := own_reads_of' (d := ByteArray.empty) hO3b
      have HBI3 := Aside0.mk hBI3
      have HL93 := Aside0.mk hl93
      have HRD := Aside0.mk hrd
      have HON : Aside0 ((outs val ls).length = ls.length) := Aside0.mk (by simp [outs])
      clear hBI3 hl93 hO3 hO3b hrd b3
      go_wp2_with (at_builtin; refine print_append_row_of (w0 := w) Value.string ByteArray.empty w.heap.size rfl (.tmp 51) (.tmp 60) 24 9 (.string ⟨#[]⟩) 16 rfl Try.underlying24 info9 rfl (by decide) (fun _ => rfl) (.slice (some ⟨wo.heap.size, 0, none⟩) 0 0) [] (outs val ls) Av ls.length cv rfl rfl HL93.out HRD.out HBI3.out HBI3.out.size (by simp; omega) ?_; intro v5 w5 hO5 hB5 hg5 _)
      have HO5 := Aside0.mk (show w5.ownsRow w.heap.size 9 1 v5 ls.length (encs Value.string (outs val ls)) by
        have := hO5
        rw [List.nil_append, HON.out] at this
        exact this)
      have HB5 := Aside0.mk hB5
      clear hO5 hB5 hg5
      go_ret
      exact ⟨⟨_, rfl, HO5.out⟩, HB5.out⟩

end Go.Proofs.Ytopmkiadoacipaa.Args
end

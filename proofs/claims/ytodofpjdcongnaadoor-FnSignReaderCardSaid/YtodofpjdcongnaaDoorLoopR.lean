/- codesign.Sign's loop over a bytes.Reader: a page a round. -/
import Derived.Test.YtodofpjdcongnaaDoorRal
import Derived.Deep.LoopGhost
namespace Go.Proofs.YtodofpjdcongnaaDoor.Sign
open Go.RowKit Go.Proofs.YtodofpjdcongnaaDoorW.PrintWords

/-- three blocks may have changed, and what is new -/
structure Tri (w w' : World) (G rb g : Nat) : Prop where
  os : w'.os = w.os
  tape : w'.tape = w.tape
  output : w'.output = w.output
  size : w.heap.size ≤ w'.heap.size
  block : ∀ k, k < w.heap.size → k ≠ G → k ≠ rb → k ≠ g → w'.heap[k]? = w.heap[k]?
theorem Tri.refl (w : World) (G rb g : Nat) : Tri w w G rb g := ⟨rfl, rfl, rfl, Nat.le_refl _, fun _ _ _ _ _ => rfl⟩
theorem Tri.two {w a : World} {G rb g : Nat} (h : Two w a rb g) : Tri w a G rb g := ⟨h.os, h.tape, h.output, h.size, fun k hk _ h1 h2 => h.block k hk h1 h2⟩
theorem Tri.below {w a c : World} {G rb g : Nat} (h : Tri w a G rb g) (k : Below a.heap.size a c) : Tri w c G rb g :=
  ⟨k.os.trans h.os, k.tape.trans h.tape, k.output.trans h.output, Nat.le_trans h.size k.size, fun i hi h0 h1 h2 => (k.block i (Nat.lt_of_lt_of_le hi h.size)).trans (h.block i hi h0 h1 h2)⟩
theorem Tri.grown {w a c : World} {G rb g : Nat} (h : Tri w a G rb g) (k : a.grownBy c (some G)) : Tri w c G rb g :=
  ⟨k.os.trans h.os, k.tape.trans h.tape, k.output.trans h.output, Nat.le_trans h.size k.size, fun i hi h0 h1 h2 => (k.block i (Nat.lt_of_lt_of_le hi h.size) (fun e => h0 (Option.some.inj e))).trans (h.block i hi h0 h1 h2)⟩
theorem Tri.trans {w a c : World} {G rb g : Nat} (h : Tri w a G rb g) (k : Tri a c G rb g) : Tri w c G rb g :=
  ⟨k.os.trans h.os, k.tape.trans h.tape, k.output.trans h.output, Nat.le_trans h.size k.size, fun i hi h0 h1 h2 => (k.block i (Nat.lt_of_lt_of_le hi h.size) h0 h1 h2).trans (h.block i hi h0 h1 h2)⟩
/-- k is none of the three -/
structure Off (k G rb g : Nat) : Prop where
  h0 : k ≠ G
  h1 : k ≠ rb
  h2 : k ≠ g
theorem Tri.cell {w w1 : World} {G rb g k o : Nat} {v : Value} (h : Tri w w1 G rb g) (hc : w.cell? ⟨k, o, none⟩ = some v) (hk : Off k G rb g) : w1.cell? ⟨k, o, none⟩ = some v := by
  have hb := h.block k (cell_lt hc) hk.h0 hk.h1 hk.h2
  rw [← hc]
  simp only [World.cell?, hb]
/-- the two errors of package io -/
structure Er (w : World) (ae au : Addr) : Prop where
  c0 : w.cell? ⟨0, 0, none⟩ = some (ev ae)
  c1 : w.cell? ⟨1, 0, none⟩ = some (ev au)
  ne : au ≠ ae
  be : ∃ ca ta, w.heap[ae.block]? = some (.cells ca ta (0, 0))
  bu : ∃ ca ta, w.heap[au.block]? = some (.cells ca ta (0, 0))
structure Offs (ae au : Addr) (b G rb g : Nat) : Prop where
  z : Off 0 G rb g
  u : Off 1 G rb g
  t : Off 4 G rb g
  e : Off ae.block G rb g
  f : Off au.block G rb g
  b : Off b G rb g
theorem Er.tri {w w1 : World} {ae au : Addr} {b G rb g : Nat} (h : Er w ae au) (t : Tri w w1 G rb g) (k : Offs ae au b G rb g) : Er w1 ae au := by
  refine ⟨t.cell h.c0 k.z, t.cell h.c1 k.u, h.ne, ?_, ?_⟩
  · obtain ⟨ca, ta, hb⟩ := h.be
    exact ⟨ca, ta, (t.block _ (blk_lt hb) k.e.h0 k.e.h1 k.e.h2).trans hb⟩
  · obtain ⟨ca, ta, hb⟩ := h.bu
    exact ⟨ca, ta, (t.block _ (blk_lt hb) k.f.h0 k.f.h1 k.f.h2).trans hb⟩

theorem err_nil (a : Addr) (w : World) : (binOp .eql 71 .nilIface (ev a)).run Tryd.prog w = .ok (.bool false) w := run_eql_iface_nil_left w 100 _ Tryd.underlying71
theorem err_other {w : World} {ae au : Addr} (h : Er w ae au) : (binOp .eql 71 (ev au) (ev ae)).run Tryd.prog w = .ok (.bool false) w := by
  obtain ⟨ca, ta, hb⟩ := h.be
  obtain ⟨cu, tu, hu⟩ := h.bu
  cases hi : Tryd.prog.info? 100 with
  | none => have := comp100; rw [hi] at this; cases this
  | some i =>
    cases hj : Tryd.prog.info? 129 with
    | none => have := size129; rw [hj] at this; cases this
    | some j =>
      have hc : i.comparable = true := by have := comp100; rw [hi] at this; exact Option.some.inj this
      have hs : j.size = 1 := by have := size129; rw [hj] at this; exact Option.some.inj this
      exact run_eql_iface_ptr_other w Tryd.underlying71 Tryd.underlying100 hi hc hj (by omega) h.ne hu hb
theorem err_neq_same (a : Addr) (w : World) : (binOp .neq 71 (ev a) (ev a)).run Tryd.prog w = .ok (.bool false) w := by
  cases hi : Tryd.prog.info? 100 with
  | none => have := comp100; rw [hi] at this; cases this
  | some i =>
    cases hj : Tryd.prog.info? 129 with
    | none => have := size129; rw [hj] at this; cases this
    | some j =>
      have hc : i.comparable = true := by have := comp100; rw [hi] at this; exact Option.some.inj this
      simp only [binOp]
      simp [Op.equal, Op.maxDepth, run_equalIn_iface_ptr_same w 9998 a Tryd.underlying71 Tryd.underlying100 hi hc hj]

theorem page_in {q r : List Int} {p j i l : Nat} (hp : p = 4096 * j) (hq : p + l ≤ q.length) (hi : i < l) (hl : l ≤ 4096) : (((q.drop p).take l ++ r)[i]?).map (Value.int .u8) = some (.int .u8 ((pageOf q j).getD i 0)) := by
  rw [page_at q j i (by omega), ← hp, List.getElem?_append_left (by rw [List.length_take, List.length_drop]; omega), List.getElem?_take, if_pos hi, List.getElem?_drop]
  have h : p + i < q.length := by omega
  simp [List.getD, List.getElem?_eq_getElem h]

set_option maxHeartbeats 16000000 in
set_option maxRecDepth 100000 in
theorem page_rf {K : Act → World → Prop} {Q0 : Exit → Act → World → Prop} {v0 v2 v4 v5 v6 v7 v8 v9 v10 v11 v12 v13 v14 v15 v16 v17 v18 v19 v20 v22 v26 v27 v28 v29 v30 v31 v32 v33 v34 v35 v36 v37 v38 v39 v40 v41 v42 v43 v44 v45 v46 v47 v48 v49 v50 v51 v52 v53 v54 v55 v56 v57 v58 v59 v60 v61 v62 v63 v64 v65 v66 v67 v68 v69 v70 v71 v72 v73 v74 v75 v76 v77 v78 v79 v80 v81 v82 v83 v84 v85 v86 v87 v88 v89 v90 v91 v92 v93 v94 v95 v96 v97 v98 v99 v100 v101 v102 v103 v104 v105 v106 v107 v108 v109 v110 v111 v112 v113 v114 v115 v116 v117 v118 v119 v120 v121 v122 v123 v124 v125 v126 v127 v128 v129 v130 v : Value} (wr : World) {G N P rb g b o n c p j l : Nat} {x : Int} {ae au : Addr} {q pre pg Kt : List Int}
    (hpj : p = 4096 * j) (hp : p + 4096 ≤ n) (hl : l = 4096) (hn : n ≤ 2147483647) (hnc : n ≤ c) (hS : St wr G N pre) (hPL : pre.length = P) (hRS : Rest G N P v) (hPN : P + 32 ≤ N) (hN62 : N ≤ 4611686018427387904)
    (hbf : wr.heap[rb]? = some (.cells #[.slice (some ⟨b, o, none⟩) n c, .int .i64 (p : Int), .int .i64 x] 77 (0, 0))) (hPg : Pg wr g pg) (hE : Er wr ae au) (hO : Offs ae au b G rb g) (hql : q.length = n) (hq8 : B8 q) (hq : ∀ i, i < n → wr.cell? ⟨b, o + i, none⟩ = some (.int .u8 (q.getD i 0))) (hK4 : Wd wr 43 4 Kt) (hrG : rb ≠ G) (hgG : g ≠ G) (hrg : rb ≠ g)
    (hK : ∀ (t26 t27 t28 t29 t30 t82 t83 t84 t85 t86 t87 t88 t89 t90 t91 t92 t93 t94 t95 t96 t97 t98 t99 t100 t101 t102 t103 t104 t105 t106 t107 t108 t109 t110 t111 t112 t113 t114 t115 t116 t117 t118 t119 t120 t121 t122 t123 t124 t125 t126 t127 t128 t129 t130 v' : Value) (pg' : List Int) (wz : World), Rest G N (P + 32) v' → St wz G N (pre ++ sha Kt (pageOf q j)) → wz.heap[rb]? = some (.cells #[.slice (some ⟨b, o, none⟩) n c, .int .i64 ((p + l : Nat) : Int), .int .i64 (-1)] 77 (0, 0)) → Pg wz g pg' → Tri wr wz G rb g → K ⟨(v0 :: (.iface 54 (.pointer (some ⟨rb, 0, none⟩)) : Value) :: v2 :: (.int .i64 (n : Int) : Value) :: v4 :: v5 :: v6 :: v7 :: v8 :: v9 :: v10 :: v11 :: v12 :: v13 :: v14 :: v15 :: v16 :: v17 :: v18 :: v19 :: v20 :: v' :: v22 :: (.bool false : Value) :: (.pointer (some ⟨g, 0, none⟩) : Value) :: (.int .i64 ((p : Int) + (l : Int)) : Value) :: t26 :: t27 :: t28 :: t29 :: t30 :: v31 :: v32 :: v33 :: v34 :: v35 :: v36 :: v37 :: v38 :: v39 :: v40 :: v41 :: v42 :: v43 :: v44 :: v45 :: v46 :: v47 :: v48 :: v49 :: v50 :: v51 :: v52 :: v53 :: v54 :: v55 :: v56 :: v57 :: v58 :: v59 :: v60 :: v61 :: v62 :: v63 :: v64 :: v65 :: v66 :: v67 :: v68 :: v69 :: v70 :: v71 :: v72 :: v73 :: v74 :: v75 :: v76 :: v77 :: v78 :: v79 :: v80 :: v81 :: t82 :: t83 :: t84 :: t85 :: t86 :: t87 :: t88 :: t89 :: t90 :: t91 :: t92 :: t93 :: t94 :: t95 :: t96 :: t97 :: t98 :: t99 :: t100 :: t101 :: t102 :: t103 :: t104 :: t105 :: t106 :: t107 :: t108 :: t109 :: t110 :: t111 :: t112 :: t113 :: t114 :: t115 :: t116 :: t117 :: t118 :: t119 :: t120 :: t121 :: t122 :: t123 :: t124 :: t125 :: t126 :: t127 :: t128 :: t129 :: t130 :: []).toArray, []⟩ wz) :
    Code.wp Tryd.prog body27 (Exit.then K Q0) ⟨(v0 :: (.iface 54 (.pointer (some ⟨rb, 0, none⟩)) : Value) :: v2 :: (.int .i64 (n : Int) : Value) :: v4 :: v5 :: v6 :: v7 :: v8 :: v9 :: v10 :: v11 :: v12 :: v13 :: v14 :: v15 :: v16 :: v17 :: v18 :: v19 :: v20 :: v :: v22 :: (.bool false : Value) :: (.pointer (some ⟨g, 0, none⟩) : Value) :: (.int .i64 (p : Int) : Value) :: v26 :: v27 :: v28 :: v29 :: v30 :: v31 :: v32 :: v33 :: v34 :: v35 :: v36 :: v37 :: v38 :: v39 :: v40 :: v41 :: v42 :: v43 :: v44 :: v45 :: v46 :: v47 :: v48 :: v49 :: v50 :: v51 :: v52 :: v53 :: v54 :: v55 :: v56 :: v57 :: v58 :: v59 :: v60 :: v61 :: v62 :: v63 :: v64 :: v65 :: v66 :: v67 :: v68 :: v69 :: v70 :: v71 :: v72 :: v73 :: v74 :: v75 :: v76 :: v77 :: v78 :: v79 :: v80 :: v81 :: v82 :: v83 :: v84 :: v85 :: v86 :: v87 :: v88 :: v89 :: v90 :: v91 :: v92 :: v93 :: v94 :: v95 :: v96 :: v97 :: v98 :: v99 :: v100 :: v101 :: v102 :: v103 :: v104 :: v105 :: v106 :: v107 :: v108 :: v109 :: v110 :: v111 :: v112 :: v113 :: v114 :: v115 :: v116 :: v117 :: v118 :: v119 :: v120 :: v121 :: v122 :: v123 :: v124 :: v125 :: v126 :: v127 :: v128 :: v129 :: v130 :: []).toArray, []⟩ wr := by
  conv => arg 2; whnf
  subst hl
  have hlb : 0 < 4096 ∧ 4096 ≤ 4096 ∧ p + 4096 ≤ n := by omega
  obtain ⟨hl1, hl2, hl3⟩ := hlb
  have HPJ := Aside0.mk hpj
  have HPL := Aside0.mk hPL
  have HRS := Aside0.mk hRS
  have HQL := Aside0.mk hql
  have HQ8 := Aside0.mk hq8
  have HGG := Aside0.mk (And.intro hrG hgG)
  have HO := Aside0.mk hO
  have HK1 := Aside0.mk hK
  have HSR := Aside0.mk hS
  have HK4 := Aside0.mk hK4
  have HE := Aside0.mk hE
  have HQ := Aside0.mk hq
  have HC := Aside0.mk (rf_full rb g b o n c p x q pg wr hbf hPg hp hn hnc hql hq hrg hO.b.h1)
  have hpi : (p : Int) < (n : Int) := by omega
  have hpl : ¬ (n : Int) < (p : Int) + (4096 : Int) := by omega
  clear hp hpj hS hPL hRS hbf hPg hE hO hql hq8 hq hK4 hrG hgG hrg hK
  go_wp2_with fail
  (with_reducible refine HC.out.mono ?_)
  rintro e wA ⟨rfl, hbA, hPA, htA⟩
  have htri : Tri wr wA G rb g := Tri.two htA
  have hEA := HE.out.tri htri HO.out
  have HEA := Aside0.mk hEA
  have c0 := hEA.c0
  have c1 := hEA.c1
  have HSA : Aside0 (St wA G N pre) := Aside0.mk ⟨HSR.out.1, (htA.block G (blk_lt HSR.out.2) (fun e => HGG.out.1 e.symm) (fun e => HGG.out.2 e.symm)).trans HSR.out.2⟩
  have hKA : Wd wA 43 4 Kt := ⟨HK4.out.len, (htA.block 4 (blk_lt HK4.out.blk) HO.out.t.h1 HO.out.t.h2).trans HK4.out.blk⟩
  have HKA := Aside0.mk hKA
  have HBA := Aside0.mk hbA
  have HPA := Aside0.mk hPA
  have HTA := Aside0.mk htri
  have hes := err_nil ae
  clear hbA hPA htA htri hEA hKA HC
  go_wp2_with fail
  (have HS256 := Aside0.mk (sum256 g 0 4096 4096 (pageOf q j) Kt wA HKA.out hl1 hl2 (by omega) (by decide) (blk_lt HPA.out.blk) (by rw [page_length, HQL.out, ← HPJ.out]; omega) ((HQ8.out.drop _).take _) (fun i hi => by
    rw [Nat.zero_add, blk_cell HPA.out.blk, List.getElem?_toArray, nums_at]
    exact page_in HPJ.out (by rw [HQL.out]; omega) hi hl2)))
  clear c0 c1 hes
  (with_reducible refine HS256.out.mono ?_)
  rintro e wB ⟨rfl, hbB⟩
  have HBB := Aside0.mk hbB
  clear hbB HS256
  obtain ⟨cs, hcs⟩ : ∃ cs : Array Value, cs = (nums .u8 (sha Kt (pageOf q j))).toArray := ⟨_, rfl⟩
  have hsz : cs.size = 32 := by rw [hcs, List.size_toArray, nums_len, sha_length]
  have hi74 : (Tryd.prog.info? 74).map (·.size) = some cs.size := by rw [hsz]; exact info74
  have h1c : ∀ q ∈ cs.toList, q.oneCell' = true := by rw [hcs]; exact one_nums _
  rw [← hcs]
  have HCS := Aside0.mk hcs
  have HCZ := Aside0.mk hsz
  have HI74 := Aside0.mk hi74
  have H1C := Aside0.mk h1c
  clear hcs hsz hi74 h1c
  go_wp2_with (first
    | ((with_reducible refine gate_dst (N := 30) rfl ?_); refine alloc_known rfl 30 rfl 74 rfl _ zero74 ?_; intro S hS wC hbC hBC; have HS := Aside0.mk hS; have HRC := Aside0.mk hbC; have HBC := Aside0.mk hBC; clear hS hbC hBC)
    | ((with_reducible refine gate_store (t := 74) (p := 30) rfl ?_); refine stop_here ?_))
  unfold Stopped
  refine store_all rfl rfl 74 (.tmp 30) (.tmp 127) rfl S _ 74 (.agg cs) cs.toList rfl rfl rfl (by rw [Array.length_toList]; exact HI74.out) H1C.out HRC.out (by have h := HCZ.out; simp [nums, noughts, h]) ?_
  intro wD hbD hgD
  have hSn : wA.heap.size ≤ S := by have := HS.out; have := HBB.out.size; omega
  have hbAD : Below wA.heap.size wA wD := below_grown (HBB.out.trans (HBC.out.mono HBB.out.size)) hgD hSn
  have hrd : ReadsInt wD .u8 (some ⟨S, 0, none⟩) 32 (sha Kt (pageOf q j)) := ⟨sha_length _ _, by decide, fun _ => ⟨_, rfl, fun jj hjj => by
    rw [Addr.add_lit, Nat.zero_add, blk_cell hbD, HCS.out]
    have hjl : jj < (sha Kt (pageOf q j)).length := by rw [sha_length]; exact hjj
    rw [List.getElem?_toArray, nums_at, List.getD_eq_getElem?_getD, List.getElem?_eq_getElem hjl]
    rfl⟩⟩
  have HRD := Aside0.mk hrd
  have HAD := Aside0.mk hbAD
  have HSD := Aside0.mk (HSA.out.below hbAD)
  clear hbD hgD hSn hbAD hrd
  go_wp2_with fail
  (with_reducible refine (puts G N P 32 32 pre (sha Kt (pageOf q j)) _ _ _ HSD.out HPL.out (by decide) hPN hN62 HRS.out HRD.out).mono ?_)
  rintro e wE ⟨⟨v', rfl, r'⟩, hsE, hgE⟩
  have HRE := Aside0.mk r'
  have HSE := Aside0.mk hsE
  have HGE := Aside0.mk hgE
  obtain ⟨oo, hoo, rfl⟩ := r'
  clear hsE hgE hoo
  go_wp2
  refine HK1.out _ _ _ _ _ _ _ _ _ _ _ _ _ _ _ _ _ _ _ _ _ _ _ _ _ _ _ _ _ _ _ _ _ _ _ _ _ _ _ _ _ _ _ _ _ _ _ _ _ _ _ _ _ _ _ _ _ HRE.out HSE.out (blk_grown ((HAD.out.block rb (blk_lt HBA.out)).trans HBA.out) HGE.out (fun e => HGG.out.1 (Option.some.inj e))) ⟨HPA.out.len, blk_grown ((HAD.out.block g (blk_lt HPA.out.blk)).trans HPA.out.blk) HGE.out (fun e => HGG.out.2 (Option.some.inj e))⟩ ((HTA.out.below HAD.out).grown HGE.out)

set_option maxHeartbeats 16000000 in
set_option maxRecDepth 100000 in
theorem page_rp {K : Act → World → Prop} {Q0 : Exit → Act → World → Prop} {v0 v2 v4 v5 v6 v7 v8 v9 v10 v11 v12 v13 v14 v15 v16 v17 v18 v19 v20 v22 v26 v27 v28 v29 v30 v31 v32 v33 v34 v35 v36 v37 v38 v39 v40 v41 v42 v43 v44 v45 v46 v47 v48 v49 v50 v51 v52 v53 v54 v55 v56 v57 v58 v59 v60 v61 v62 v63 v64 v65 v66 v67 v68 v69 v70 v71 v72 v73 v74 v75 v76 v77 v78 v79 v80 v81 v82 v83 v84 v85 v86 v87 v88 v89 v90 v91 v92 v93 v94 v95 v96 v97 v98 v99 v100 v101 v102 v103 v104 v105 v106 v107 v108 v109 v110 v111 v112 v113 v114 v115 v116 v117 v118 v119 v120 v121 v122 v123 v124 v125 v126 v127 v128 v129 v130 v : Value} (wr : World) {G N P rb g b o n c p j l : Nat} {x : Int} {ae au : Addr} {q pre pg Kt : List Int}
    (hpj : p = 4096 * j) (hp : p < n) (hl : l = n - p) (hl4 : l < 4096) (hn : n ≤ 2147483647) (hnc : n ≤ c) (hS : St wr G N pre) (hPL : pre.length = P) (hRS : Rest G N P v) (hPN : P + 32 ≤ N) (hN62 : N ≤ 4611686018427387904)
    (hbf : wr.heap[rb]? = some (.cells #[.slice (some ⟨b, o, none⟩) n c, .int .i64 (p : Int), .int .i64 x] 77 (0, 0))) (hPg : Pg wr g pg) (hE : Er wr ae au) (hO : Offs ae au b G rb g) (hql : q.length = n) (hq8 : B8 q) (hq : ∀ i, i < n → wr.cell? ⟨b, o + i, none⟩ = some (.int .u8 (q.getD i 0))) (hK4 : Wd wr 43 4 Kt) (hrG : rb ≠ G) (hgG : g ≠ G) (hrg : rb ≠ g)
    (hK : ∀ (t26 t27 t28 t29 t30 t82 t83 t84 t85 t86 t87 t88 t89 t90 t91 t92 t93 t94 t95 t96 t97 t98 t99 t100 t101 t102 t103 t104 t105 t106 t107 t108 t109 t110 t111 t112 t113 t114 t115 t116 t117 t118 t119 t120 t121 t122 t123 t124 t125 t126 t127 t128 t129 t130 v' : Value) (pg' : List Int) (wz : World), Rest G N (P + 32) v' → St wz G N (pre ++ sha Kt (pageOf q j)) → wz.heap[rb]? = some (.cells #[.slice (some ⟨b, o, none⟩) n c, .int .i64 ((p + l : Nat) : Int), .int .i64 (-1)] 77 (0, 0)) → Pg wz g pg' → Tri wr wz G rb g → K ⟨(v0 :: (.iface 54 (.pointer (some ⟨rb, 0, none⟩)) : Value) :: v2 :: (.int .i64 (n : Int) : Value) :: v4 :: v5 :: v6 :: v7 :: v8 :: v9 :: v10 :: v11 :: v12 :: v13 :: v14 :: v15 :: v16 :: v17 :: v18 :: v19 :: v20 :: v' :: v22 :: (.bool false : Value) :: (.pointer (some ⟨g, 0, none⟩) : Value) :: (.int .i64 ((p : Int) + (l : Int)) : Value) :: t26 :: t27 :: t28 :: t29 :: t30 :: v31 :: v32 :: v33 :: v34 :: v35 :: v36 :: v37 :: v38 :: v39 :: v40 :: v41 :: v42 :: v43 :: v44 :: v45 :: v46 :: v47 :: v48 :: v49 :: v50 :: v51 :: v52 :: v53 :: v54 :: v55 :: v56 :: v57 :: v58 :: v59 :: v60 :: v61 :: v62 :: v63 :: v64 :: v65 :: v66 :: v67 :: v68 :: v69 :: v70 :: v71 :: v72 :: v73 :: v74 :: v75 :: v76 :: v77 :: v78 :: v79 :: v80 :: v81 :: t82 :: t83 :: t84 :: t85 :: t86 :: t87 :: t88 :: t89 :: t90 :: t91 :: t92 :: t93 :: t94 :: t95 :: t96 :: t97 :: t98 :: t99 :: t100 :: t101 :: t102 :: t103 :: t104 :: t105 :: t106 :: t107 :: t108 :: t109 :: t110 :: t111 :: t112 :: t113 :: t114 :: t115 :: t116 :: t117 :: t118 :: t119 :: t120 :: t121 :: t122 :: t123 :: t124 :: t125 :: t126 :: t127 :: t128 :: t129 :: t130 :: []).toArray, []⟩ wz) :
    Code.wp Tryd.prog body27 (Exit.then K Q0) ⟨(v0 :: (.iface 54 (.pointer (some ⟨rb, 0, none⟩)) : Value) :: v2 :: (.int .i64 (n : Int) : Value) :: v4 :: v5 :: v6 :: v7 :: v8 :: v9 :: v10 :: v11 :: v12 :: v13 :: v14 :: v15 :: v16 :: v17 :: v18 :: v19 :: v20 :: v :: v22 :: (.bool false : Value) :: (.pointer (some ⟨g, 0, none⟩) : Value) :: (.int .i64 (p : Int) : Value) :: v26 :: v27 :: v28 :: v29 :: v30 :: v31 :: v32 :: v33 :: v34 :: v35 :: v36 :: v37 :: v38 :: v39 :: v40 :: v41 :: v42 :: v43 :: v44 :: v45 :: v46 :: v47 :: v48 :: v49 :: v50 :: v51 :: v52 :: v53 :: v54 :: v55 :: v56 :: v57 :: v58 :: v59 :: v60 :: v61 :: v62 :: v63 :: v64 :: v65 :: v66 :: v67 :: v68 :: v69 :: v70 :: v71 :: v72 :: v73 :: v74 :: v75 :: v76 :: v77 :: v78 :: v79 :: v80 :: v81 :: v82 :: v83 :: v84 :: v85 :: v86 :: v87 :: v88 :: v89 :: v90 :: v91 :: v92 :: v93 :: v94 :: v95 :: v96 :: v97 :: v98 :: v99 :: v100 :: v101 :: v102 :: v103 :: v104 :: v105 :: v106 :: v107 :: v108 :: v109 :: v110 :: v111 :: v112 :: v113 :: v114 :: v115 :: v116 :: v117 :: v118 :: v119 :: v120 :: v121 :: v122 :: v123 :: v124 :: v125 :: v126 :: v127 :: v128 :: v129 :: v130 :: []).toArray, []⟩ wr := by
  conv => arg 2; whnf
  have hlb : 0 < l ∧ l ≤ 4096 ∧ p + l ≤ n := by omega
  obtain ⟨hl1, hl2, hl3⟩ := hlb
  have HL := Aside0.mk hl
  have HPJ := Aside0.mk hpj
  have HPL := Aside0.mk hPL
  have HRS := Aside0.mk hRS
  have HQL := Aside0.mk hql
  have HQ8 := Aside0.mk hq8
  have HGG := Aside0.mk (And.intro hrG hgG)
  have HO := Aside0.mk hO
  have HK1 := Aside0.mk hK
  have HSR := Aside0.mk hS
  have HK4 := Aside0.mk hK4
  have HE := Aside0.mk hE
  have HQ := Aside0.mk hq
  have HC := Aside0.mk (rf_part rb g b o n c p l ae au x q pg wr hbf hPg hp hl hl4 hE.c0 hE.c1 hO.z.h1 hO.z.h2 hO.u.h1 hO.u.h2 hn hnc hql hq hrg hO.b.h1)
  have hpi : (p : Int) < (n : Int) := by omega
  have hpl : ¬ (n : Int) < (p : Int) + (l : Int) := by omega
  clear hl hpj hS hPL hRS hbf hPg hE hO hql hq8 hq hK4 hrG hgG hrg hK
  go_wp2_with fail
  (with_reducible refine HC.out.mono ?_)
  rintro e wA ⟨rfl, hbA, hPA, htA⟩
  have htri : Tri wr wA G rb g := Tri.two htA
  have hEA := HE.out.tri htri HO.out
  have HEA := Aside0.mk hEA
  have c0 := hEA.c0
  have c1 := hEA.c1
  have HSA : Aside0 (St wA G N pre) := Aside0.mk ⟨HSR.out.1, (htA.block G (blk_lt HSR.out.2) (fun e => HGG.out.1 e.symm) (fun e => HGG.out.2 e.symm)).trans HSR.out.2⟩
  have hKA : Wd wA 43 4 Kt := ⟨HK4.out.len, (htA.block 4 (blk_lt HK4.out.blk) HO.out.t.h1 HO.out.t.h2).trans HK4.out.blk⟩
  have HKA := Aside0.mk hKA
  have HBA := Aside0.mk hbA
  have HPA := Aside0.mk hPA
  have HTA := Aside0.mk htri
  have hes := err_other hEA
  have hns := err_neq_same au
  have hl5 : (l : Int) ≤ 4096 := by omega
  clear hbA hPA htA htri hEA hKA HC
  go_wp2_with fail
  (have HS256 := Aside0.mk (sum256 g 0 l 4096 (pageOf q j) Kt wA HKA.out hl1 hl2 (by omega) (by decide) (blk_lt HPA.out.blk) (by rw [page_length, HQL.out, ← HPJ.out]; have := HL.out; omega) ((HQ8.out.drop _).take _) (fun i hi => by
    rw [Nat.zero_add, blk_cell HPA.out.blk, List.getElem?_toArray, nums_at]
    exact page_in HPJ.out (by rw [HQL.out]; omega) hi hl2)))
  clear c0 c1 hes hns
  (with_reducible refine HS256.out.mono ?_)
  rintro e wB ⟨rfl, hbB⟩
  have HBB := Aside0.mk hbB
  clear hbB HS256
  obtain ⟨cs, hcs⟩ : ∃ cs : Array Value, cs = (nums .u8 (sha Kt (pageOf q j))).toArray := ⟨_, rfl⟩
  have hsz : cs.size = 32 := by rw [hcs, List.size_toArray, nums_len, sha_length]
  have hi74 : (Tryd.prog.info? 74).map (·.size) = some cs.size := by rw [hsz]; exact info74
  have h1c : ∀ q ∈ cs.toList, q.oneCell' = true := by rw [hcs]; exact one_nums _
  rw [← hcs]
  have HCS := Aside0.mk hcs
  have HCZ := Aside0.mk hsz
  have HI74 := Aside0.mk hi74
  have H1C := Aside0.mk h1c
  clear hcs hsz hi74 h1c
  go_wp2_with (first
    | ((with_reducible refine gate_dst (N := 30) rfl ?_); refine alloc_known rfl 30 rfl 74 rfl _ zero74 ?_; intro S hS wC hbC hBC; have HS := Aside0.mk hS; have HRC := Aside0.mk hbC; have HBC := Aside0.mk hBC; clear hS hbC hBC)
    | ((with_reducible refine gate_store (t := 74) (p := 30) rfl ?_); refine stop_here ?_))
  unfold Stopped
  refine store_all rfl rfl 74 (.tmp 30) (.tmp 127) rfl S _ 74 (.agg cs) cs.toList rfl rfl rfl (by rw [Array.length_toList]; exact HI74.out) H1C.out HRC.out (by have h := HCZ.out; simp [nums, noughts, h]) ?_
  intro wD hbD hgD
  have hSn : wA.heap.size ≤ S := by have := HS.out; have := HBB.out.size; omega
  have hbAD : Below wA.heap.size wA wD := below_grown (HBB.out.trans (HBC.out.mono HBB.out.size)) hgD hSn
  have hrd : ReadsInt wD .u8 (some ⟨S, 0, none⟩) 32 (sha Kt (pageOf q j)) := ⟨sha_length _ _, by decide, fun _ => ⟨_, rfl, fun jj hjj => by
    rw [Addr.add_lit, Nat.zero_add, blk_cell hbD, HCS.out]
    have hjl : jj < (sha Kt (pageOf q j)).length := by rw [sha_length]; exact hjj
    rw [List.getElem?_toArray, nums_at, List.getD_eq_getElem?_getD, List.getElem?_eq_getElem hjl]
    rfl⟩⟩
  have HRD := Aside0.mk hrd
  have HAD := Aside0.mk hbAD
  have HSD := Aside0.mk (HSA.out.below hbAD)
  clear hbD hgD hSn hbAD hrd
  go_wp2_with fail
  (with_reducible refine (puts G N P 32 32 pre (sha Kt (pageOf q j)) _ _ _ HSD.out HPL.out (by decide) hPN hN62 HRS.out HRD.out).mono ?_)
  rintro e wE ⟨⟨v', rfl, r'⟩, hsE, hgE⟩
  have HRE := Aside0.mk r'
  have HSE := Aside0.mk hsE
  have HGE := Aside0.mk hgE
  obtain ⟨oo, hoo, rfl⟩ := r'
  clear hsE hgE hoo
  go_wp2
  refine HK1.out _ _ _ _ _ _ _ _ _ _ _ _ _ _ _ _ _ _ _ _ _ _ _ _ _ _ _ _ _ _ _ _ _ _ _ _ _ _ _ _ _ _ _ _ _ _ _ _ _ _ _ _ _ _ _ _ _ HRE.out HSE.out (blk_grown ((HAD.out.block rb (blk_lt HBA.out)).trans HBA.out) HGE.out (fun e => HGG.out.1 (Option.some.inj e))) ⟨HPA.out.len, blk_grown ((HAD.out.block g (blk_lt HPA.out.blk)).trans HPA.out.blk) HGE.out (fun e => HGG.out.2 (Option.some.inj e))⟩ ((HTA.out.below HAD.out).grown HGE.out)

set_option maxHeartbeats 16000000 in
set_option maxRecDepth 100000 in
theorem loop_rd {Q0 : Exit → Act → World → Prop} {v0 v2 v4 v5 v6 v7 v8 v9 v10 v11 v12 v13 v14 v15 v16 v17 v18 v19 v20 v22 v26 v27 v28 v29 v30 v31 v32 v33 v34 v35 v36 v37 v38 v39 v40 v41 v42 v43 v44 v45 v46 v47 v48 v49 v50 v51 v52 v53 v54 v55 v56 v57 v58 v59 v60 v61 v62 v63 v64 v65 v66 v67 v68 v69 v70 v71 v72 v73 v74 v75 v76 v77 v78 v79 v80 v81 v82 v83 v84 v85 v86 v87 v88 v89 v90 v91 v92 v93 v94 v95 v96 v97 v98 v99 v100 v101 v102 v103 v104 v105 v106 v107 v108 v109 v110 v111 v112 v113 v114 v115 v116 v117 v118 v119 v120 v121 v122 v123 v124 v125 v126 v127 v128 v129 v130 v : Value} (wr : World) {G N P rb g b o n c : Nat} {x : Int} {ae au : Addr} {q pre pg Kt : List Int}
    (hn : n ≤ 2147483647) (hnc : n ≤ c) (hS : St wr G N pre) (hPL : pre.length = P) (hRS : Rest G N P v) (hPN : P + 32 * ((n + 4095) / 4096) = N) (hN62 : N ≤ 4611686018427387904)
    (hbf : wr.heap[rb]? = some (.cells #[.slice (some ⟨b, o, none⟩) n c, .int .i64 0, .int .i64 x] 77 (0, 0))) (hPg : Pg wr g pg) (hE : Er wr ae au) (hO : Offs ae au b G rb g) (hql : q.length = n) (hq8 : B8 q) (hq : ∀ i, i < n → wr.cell? ⟨b, o + i, none⟩ = some (.int .u8 (q.getD i 0))) (hK4 : Wd wr 43 4 Kt) (hrG : rb ≠ G) (hgG : g ≠ G) (hrg : rb ≠ g)
    (hx : ∀ (t21 t25 t26 t27 t28 t29 t30 t82 t83 t84 t85 t86 t87 t88 t89 t90 t91 t92 t93 t94 t95 t96 t97 t98 t99 t100 t101 t102 t103 t104 t105 t106 t107 t108 t109 t110 t111 t112 t113 t114 t115 t116 t117 t118 t119 t120 t121 t122 t123 t124 t125 t126 t127 t128 t129 t130 : Value) (wz : World), St wz G N (pre ++ pagesF Kt q ((n + 4095) / 4096)) → Tri wr wz G rb g → Q0 (.exit 0) ⟨(v0 :: (.iface 54 (.pointer (some ⟨rb, 0, none⟩)) : Value) :: v2 :: (.int .i64 (n : Int) : Value) :: v4 :: v5 :: v6 :: v7 :: v8 :: v9 :: v10 :: v11 :: v12 :: v13 :: v14 :: v15 :: v16 :: v17 :: v18 :: v19 :: v20 :: t21 :: v22 :: (.bool false : Value) :: (.pointer (some ⟨g, 0, none⟩) : Value) :: t25 :: t26 :: t27 :: t28 :: t29 :: t30 :: v31 :: v32 :: v33 :: v34 :: v35 :: v36 :: v37 :: v38 :: v39 :: v40 :: v41 :: v42 :: v43 :: v44 :: v45 :: v46 :: v47 :: v48 :: v49 :: v50 :: v51 :: v52 :: v53 :: v54 :: v55 :: v56 :: v57 :: v58 :: v59 :: v60 :: v61 :: v62 :: v63 :: v64 :: v65 :: v66 :: v67 :: v68 :: v69 :: v70 :: v71 :: v72 :: v73 :: v74 :: v75 :: v76 :: v77 :: v78 :: v79 :: v80 :: v81 :: t82 :: t83 :: t84 :: t85 :: t86 :: t87 :: t88 :: t89 :: t90 :: t91 :: t92 :: t93 :: t94 :: t95 :: t96 :: t97 :: t98 :: t99 :: t100 :: t101 :: t102 :: t103 :: t104 :: t105 :: t106 :: t107 :: t108 :: t109 :: t110 :: t111 :: t112 :: t113 :: t114 :: t115 :: t116 :: t117 :: t118 :: t119 :: t120 :: t121 :: t122 :: t123 :: t124 :: t125 :: t126 :: t127 :: t128 :: t129 :: t130 :: []).toArray, []⟩ wz) :
    Code.wp Tryd.prog (Code.loop body27) Q0 ⟨(v0 :: (.iface 54 (.pointer (some ⟨rb, 0, none⟩)) : Value) :: v2 :: (.int .i64 (n : Int) : Value) :: v4 :: v5 :: v6 :: v7 :: v8 :: v9 :: v10 :: v11 :: v12 :: v13 :: v14 :: v15 :: v16 :: v17 :: v18 :: v19 :: v20 :: v :: v22 :: (.bool false : Value) :: (.pointer (some ⟨g, 0, none⟩) : Value) :: (.int .i64 0 : Value) :: v26 :: v27 :: v28 :: v29 :: v30 :: v31 :: v32 :: v33 :: v34 :: v35 :: v36 :: v37 :: v38 :: v39 :: v40 :: v41 :: v42 :: v43 :: v44 :: v45 :: v46 :: v47 :: v48 :: v49 :: v50 :: v51 :: v52 :: v53 :: v54 :: v55 :: v56 :: v57 :: v58 :: v59 :: v60 :: v61 :: v62 :: v63 :: v64 :: v65 :: v66 :: v67 :: v68 :: v69 :: v70 :: v71 :: v72 :: v73 :: v74 :: v75 :: v76 :: v77 :: v78 :: v79 :: v80 :: v81 :: v82 :: v83 :: v84 :: v85 :: v86 :: v87 :: v88 :: v89 :: v90 :: v91 :: v92 :: v93 :: v94 :: v95 :: v96 :: v97 :: v98 :: v99 :: v100 :: v101 :: v102 :: v103 :: v104 :: v105 :: v106 :: v107 :: v108 :: v109 :: v110 :: v111 :: v112 :: v113 :: v114 :: v115 :: v116 :: v117 :: v118 :: v119 :: v120 :: v121 :: v122 :: v123 :: v124 :: v125 :: v126 :: v127 :: v128 :: v129 :: v130 :: []).toArray, []⟩ wr := by
  conv => arg 2; arg 1; whnf
  have HX := Aside0.mk hx
  clear hx
  obtain ⟨wo, hwo⟩ : ∃ wo : World, wo = wr := ⟨_, rfl⟩
  subst hwo
  go_loopg [21, 25] ((n + 4095) / 4096) (fun k u21 u25 wi => ∃ (j : Nat) (x : Int) (pg : List Int), u25 = .int .i64 ((min (4096 * j) n : Nat) : Int) ∧ Aside0 (Rest G N (P + 32 * j) u21) ∧ Aside0 (j + k = (n + 4095) / 4096) ∧ Aside0 (St wi G N (pre ++ pagesF Kt q j)) ∧ Aside0 (wi.heap[rb]? = some (.cells #[.slice (some ⟨b, o, none⟩) n c, .int .i64 ((min (4096 * j) n : Nat) : Int), .int .i64 x] 77 (0, 0))) ∧ Aside0 (Pg wi g pg) ∧ Aside0 (Tri wo wi G rb g))
  case atStart => exact ⟨0, x, pg, by simp, Aside0.mk hRS, Aside0.mk (Nat.zero_add _), Aside0.mk (by rw [pagesF, List.append_nil]; exact hS), Aside0.mk (by simpa using hbf), Aside0.mk hPg, Aside0.mk (Tri.refl _ _ _ _)⟩
  case round =>
    rename_i K_ hJ_ hK_
    obtain ⟨j, x, pg1, rfl, HR, HJ, HS, HB, HP, HT⟩ := hrel
    have hj := HJ.out
    by_cases hk : 4096 * j < n
    · have hm : min (4096 * j) n = 4096 * j := Nat.min_eq_left (by omega)
      rw [hm]
      have hbf2 := HB.out
      rw [hm] at hbf2
      have hKK : Wd wr 43 4 Kt := ⟨hK4.len, (HT.out.block 4 (blk_lt hK4.blk) hO.t.h0 hO.t.h1 hO.t.h2).trans hK4.blk⟩
      by_cases hfull : 4096 * j + 4096 ≤ n
      · have hm2 : min (4096 * (j + 1)) n = 4096 * j + 4096 := by omega
        refine page_rf wr (Kt := Kt) (ae := ae) (au := au) (p := 4096 * j) (j := j) (l := 4096) rfl hfull rfl hn hnc HS.out (by rw [List.length_append, pagesF_length, hPL]) HR.out (by omega) hN62 hbf2 HP.out (hE.tri HT.out hO) hO hql hq8 (fun i hi => HT.out.cell (hq i hi) hO.b) hKK hrG hgG hrg ?_
        intro t26 t27 t28 t29 t30 t82 t83 t84 t85 t86 t87 t88 t89 t90 t91 t92 t93 t94 t95 t96 t97 t98 t99 t100 t101 t102 t103 t104 t105 t106 t107 t108 t109 t110 t111 t112 t113 t114 t115 t116 t117 t118 t119 t120 t121 t122 t123 t124 t125 t126 t127 t128 t129 t130 v' pg' wz hr hs hbz hpz hz
        refine hK_ _ _ (Handed.intro (gk - 1) (by omega) (hJ_ _ _ _ ?_))
        (repeat apply Exists.intro)
        refine ⟨⟨j + 1, -1, pg', ?_, Aside0.mk ?_, Aside0.mk (by omega), Aside0.mk ?_, Aside0.mk ?_, Aside0.mk hpz, Aside0.mk (HT.out.trans hz)⟩, rfl⟩
        · rw [hm2]
          push_cast
          rfl
        · rw [show P + 32 * (j + 1) = P + 32 * j + 32 by omega]
          exact hr
        · rw [pagesF, ← List.append_assoc]
          exact hs
        · rw [hm2]
          exact hbz
      · have hm2 : min (4096 * (j + 1)) n = 4096 * j + (n - 4096 * j) := by omega
        refine page_rp wr (Kt := Kt) (ae := ae) (au := au) (p := 4096 * j) (j := j) (l := n - 4096 * j) rfl hk rfl (by omega) hn hnc HS.out (by rw [List.length_append, pagesF_length, hPL]) HR.out (by omega) hN62 hbf2 HP.out (hE.tri HT.out hO) hO hql hq8 (fun i hi => HT.out.cell (hq i hi) hO.b) hKK hrG hgG hrg ?_
        intro t26 t27 t28 t29 t30 t82 t83 t84 t85 t86 t87 t88 t89 t90 t91 t92 t93 t94 t95 t96 t97 t98 t99 t100 t101 t102 t103 t104 t105 t106 t107 t108 t109 t110 t111 t112 t113 t114 t115 t116 t117 t118 t119 t120 t121 t122 t123 t124 t125 t126 t127 t128 t129 t130 v' pg' wz hr hs hbz hpz hz
        refine hK_ _ _ (Handed.intro (gk - 1) (by omega) (hJ_ _ _ _ ?_))
        (repeat apply Exists.intro)
        refine ⟨⟨j + 1, -1, pg', ?_, Aside0.mk ?_, Aside0.mk (by omega), Aside0.mk ?_, Aside0.mk ?_, Aside0.mk hpz, Aside0.mk (HT.out.trans hz)⟩, rfl⟩
        · rw [hm2]
          push_cast
          rfl
        · rw [show P + 32 * (j + 1) = P + 32 * j + 32 by omega]
          exact hr
        · rw [pagesF, ← List.append_assoc]
          exact hs
        · rw [hm2]
          exact hbz
    · have hm : min (4096 * j) n = n := Nat.min_eq_right (by omega)
      have hjm : j = (n + 4095) / 4096 := by omega
      rw [hm]
      refine page_end wr (by omega) (fun t82 t83 t84 => ?_)
      subst hjm
      exact HX.out _ _ _ _ _ _ _ _ _ _ _ _ _ _ _ _ _ _ _ _ _ _ _ _ _ _ _ _ _ _ _ _ _ _ _ _ _ _ _ _ _ _ _ _ _ _ _ _ _ _ _ _ _ _ _ _ wr HS.out HT.out

end Go.Proofs.YtodofpjdcongnaaDoor.Sign

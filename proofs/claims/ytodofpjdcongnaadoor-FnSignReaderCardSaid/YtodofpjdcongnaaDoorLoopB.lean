/- codesign.Sign's loop over a bytes.Buffer: a page a round. -/
import Derived.Test.YtodofpjdcongnaaDoorNx
import Derived.Test.YtodofpjdcongnaaDoorHdr
import Derived.Deep.LoopGhost
namespace Go.Proofs.YtodofpjdcongnaaDoor.Sign
open Go.RowKit Go.Proofs.YtodofpjdcongnaaDoorW.PrintWords

noncomputable def body27 : Code := (loopOf (Tryd.f27.body.getD .skip)).getD .skip

/-- a page of the code -/
def pageOf (q : List Int) (j : Nat) : List Int := (q.drop (4096 * j)).take 4096
/-- the hashes of the first pages -/
def pagesF (K q : List Int) : Nat → List Int
  | 0 => []
  | m + 1 => pagesF K q m ++ sha K (pageOf q m)
theorem pagesF_length (K q : List Int) (m : Nat) : (pagesF K q m).length = 32 * m := by
  induction m with
  | zero => rfl
  | succ m ih => rw [pagesF, List.length_append, ih, sha_length]; omega
theorem page_length (q : List Int) (j : Nat) : (pageOf q j).length = min 4096 (q.length - 4096 * j) := by
  rw [pageOf, List.length_take, List.length_drop]
theorem two_cell {w w1 : World} {G b k o : Nat} {v : Value} (h : Two w w1 G b) (hc : w.cell? ⟨k, o, none⟩ = some v) (hk : k < w.heap.size) (h1 : k ≠ G) (h2 : k ≠ b) : w1.cell? ⟨k, o, none⟩ = some v := by
  have hb := h.block k hk h1 h2
  rw [← hc]
  simp only [World.cell?, hb]
theorem two_trans {w a c : World} {G b : Nat} (h : Two w a G b) (k : Two a c G b) : Two w c G b :=
  ⟨k.os.trans h.os, k.tape.trans h.tape, k.output.trans h.output, Nat.le_trans h.size k.size, fun i hi h1 h2 => (k.block i (Nat.lt_of_lt_of_le hi h.size) h1 h2).trans (h.block i hi h1 h2)⟩
theorem page_at (q : List Int) (j i : Nat) (h : i < 4096) : (pageOf q j).getD i 0 = q.getD (4096 * j + i) 0 := by
  simp [pageOf, List.getD, h, List.getElem?_drop]

set_option maxHeartbeats 16000000 in
set_option maxRecDepth 100000 in
theorem page_buf {K : Act → World → Prop} {Q0 : Exit → Act → World → Prop} {v0 v1 v2 v4 v5 v6 v7 v8 v9 v10 v11 v12 v13 v14 v15 v16 v17 v18 v19 v20 v24 v26 v27 v28 v29 v30 v31 v32 v33 v34 v35 v36 v37 v38 v39 v40 v41 v42 v43 v44 v45 v46 v47 v48 v49 v50 v51 v52 v53 v54 v55 v56 v57 v58 v59 v60 v61 v62 v63 v64 v65 v66 v67 v68 v69 v70 v71 v72 v73 v74 v75 v76 v77 v78 v79 v80 v81 v82 v83 v84 v85 v86 v87 v88 v89 v90 v91 v92 v93 v94 v95 v96 v97 v98 v99 v100 v101 v102 v103 v104 v105 v106 v107 v108 v109 v110 v111 v112 v113 v114 v115 v116 v117 v118 v119 v120 v121 v122 v123 v124 v125 v126 v127 v128 v129 v130 v : Value} (wr : World) {G N P bb b o n c p j l : Nat} {x : Int} {q pre Kt : List Int}
    (hpj : p = 4096 * j) (hp : p < n) (hl : l = min 4096 (n - p)) (hn : n ≤ 2147483647) (hnc : n ≤ c) (hcm : c ≤ 9223372036854775807) (hS : St wr G N pre) (hPL : pre.length = P) (hRS : Rest G N P v) (hPN : P + 32 ≤ N) (hN62 : N ≤ 4611686018427387904)
    (hbf : wr.heap[bb]? = some (.cells #[.slice (some ⟨b, o, none⟩) n c, .int .i64 (p : Int), .int .i8 x] 51 (0, 0))) (hql : q.length = n) (hq8 : B8 q) (hq : ∀ i, i < n → wr.cell? ⟨b, o + i, none⟩ = some (.int .u8 (q.getD i 0))) (hK4 : Wd wr 43 4 Kt) (hbbG : bb ≠ G) (hb : b ≠ bb) (h4 : 4 ≠ bb) (hbl : b < wr.heap.size)
    (hK : ∀ (t26 t27 t28 t29 t30 t82 t83 t84 t85 t86 t87 t88 t89 t90 t91 t92 t93 t94 t95 t96 t97 t98 t99 t100 t101 t102 t103 t104 t105 t106 t107 t108 t109 t110 t111 t112 t113 t114 t115 t116 t117 t118 t119 t120 t121 t122 t123 t124 t125 t126 t127 t128 t129 t130 v' : Value) (wz : World), Rest G N (P + 32) v' → St wz G N (pre ++ sha Kt (pageOf q j)) → wz.heap[bb]? = some (.cells #[.slice (some ⟨b, o, none⟩) n c, .int .i64 ((p + l : Nat) : Int), .int .i8 (-1)] 51 (0, 0)) → Two wr wz G bb → K ⟨(v0 :: v1 :: v2 :: (.int .i64 (n : Int) : Value) :: v4 :: v5 :: v6 :: v7 :: v8 :: v9 :: v10 :: v11 :: v12 :: v13 :: v14 :: v15 :: v16 :: v17 :: v18 :: v19 :: v20 :: v' :: (.pointer (some ⟨bb, 0, none⟩) : Value) :: (.bool true : Value) :: v24 :: (.int .i64 ((p : Int) + (l : Int)) : Value) :: t26 :: t27 :: t28 :: t29 :: t30 :: v31 :: v32 :: v33 :: v34 :: v35 :: v36 :: v37 :: v38 :: v39 :: v40 :: v41 :: v42 :: v43 :: v44 :: v45 :: v46 :: v47 :: v48 :: v49 :: v50 :: v51 :: v52 :: v53 :: v54 :: v55 :: v56 :: v57 :: v58 :: v59 :: v60 :: v61 :: v62 :: v63 :: v64 :: v65 :: v66 :: v67 :: v68 :: v69 :: v70 :: v71 :: v72 :: v73 :: v74 :: v75 :: v76 :: v77 :: v78 :: v79 :: v80 :: v81 :: t82 :: t83 :: t84 :: t85 :: t86 :: t87 :: t88 :: t89 :: t90 :: t91 :: t92 :: t93 :: t94 :: t95 :: t96 :: t97 :: t98 :: t99 :: t100 :: t101 :: t102 :: t103 :: t104 :: t105 :: t106 :: t107 :: t108 :: t109 :: t110 :: t111 :: t112 :: t113 :: t114 :: t115 :: t116 :: t117 :: t118 :: t119 :: t120 :: t121 :: t122 :: t123 :: t124 :: t125 :: t126 :: t127 :: t128 :: t129 :: t130 :: []).toArray, []⟩ wz) :
    Code.wp Tryd.prog body27 (Exit.then K Q0) ⟨(v0 :: v1 :: v2 :: (.int .i64 (n : Int) : Value) :: v4 :: v5 :: v6 :: v7 :: v8 :: v9 :: v10 :: v11 :: v12 :: v13 :: v14 :: v15 :: v16 :: v17 :: v18 :: v19 :: v20 :: v :: (.pointer (some ⟨bb, 0, none⟩) : Value) :: (.bool true : Value) :: v24 :: (.int .i64 (p : Int) : Value) :: v26 :: v27 :: v28 :: v29 :: v30 :: v31 :: v32 :: v33 :: v34 :: v35 :: v36 :: v37 :: v38 :: v39 :: v40 :: v41 :: v42 :: v43 :: v44 :: v45 :: v46 :: v47 :: v48 :: v49 :: v50 :: v51 :: v52 :: v53 :: v54 :: v55 :: v56 :: v57 :: v58 :: v59 :: v60 :: v61 :: v62 :: v63 :: v64 :: v65 :: v66 :: v67 :: v68 :: v69 :: v70 :: v71 :: v72 :: v73 :: v74 :: v75 :: v76 :: v77 :: v78 :: v79 :: v80 :: v81 :: v82 :: v83 :: v84 :: v85 :: v86 :: v87 :: v88 :: v89 :: v90 :: v91 :: v92 :: v93 :: v94 :: v95 :: v96 :: v97 :: v98 :: v99 :: v100 :: v101 :: v102 :: v103 :: v104 :: v105 :: v106 :: v107 :: v108 :: v109 :: v110 :: v111 :: v112 :: v113 :: v114 :: v115 :: v116 :: v117 :: v118 :: v119 :: v120 :: v121 :: v122 :: v123 :: v124 :: v125 :: v126 :: v127 :: v128 :: v129 :: v130 :: []).toArray, []⟩ wr := by
  conv => arg 2; whnf
  have hlb : 0 < l ∧ l ≤ 4096 ∧ p + l ≤ n := by omega
  obtain ⟨hl1, hl2, hl3⟩ := hlb
  have HL := Aside0.mk hl
  have HPJ := Aside0.mk hpj
  have HSR := Aside0.mk hS
  have HPL := Aside0.mk hPL
  have HRS := Aside0.mk hRS
  have HBF := Aside0.mk hbf
  have HQL := Aside0.mk hql
  have HQ8 := Aside0.mk hq8
  have HQ := Aside0.mk hq
  have HK4 := Aside0.mk hK4
  have HBG := Aside0.mk hbbG
  have HB := Aside0.mk hb
  have H4 := Aside0.mk h4
  have HBL := Aside0.mk hbl
  have HK1 := Aside0.mk hK
  have hli : ¬ (l : Int) = 0 := by omega
  have hpi : (p : Int) < (n : Int) := by omega
  have hpl : ¬ (n : Int) < (p : Int) + (l : Int) := by omega
  have hl0 : ((l : Int) == 0) = false := by simp; omega
  clear hl hpj hS hPL hRS hbf hql hq8 hq hK4 hbbG hb h4 hbl hK
  go_wp2_with fail
  (with_reducible refine (next_data bb b o n c p l x _ HBF.out hp HL.out hn hnc).mono ?_)
  rintro e wA ⟨rfl, hbA, hgA⟩
  have HSA := Aside0.mk (HSR.out.grown hgA (fun e => HBG.out (Option.some.inj e).symm))
  have hKA : Wd wA 43 4 Kt := HK4.out.grown hgA (fun e => H4.out (Option.some.inj e))
  have HBA := Aside0.mk hbA
  have HGA := Aside0.mk hgA
  clear hbA hgA
  (have HS256 := Aside0.mk (sum256 b (o + p) l (c - p) (pageOf q j) Kt wA hKA hl1 hl2 (by omega) (by omega) (by have := HBL.out; have := HGA.out.size; omega) (by rw [page_length, HQL.out, ← HPJ.out]; exact HL.out.symm) ((HQ8.out.drop _).take _) (fun i hi => by
    rw [page_at q j i (by omega), Nat.add_assoc]
    have h := HGA.out.cell (HQ.out (p + i) (by omega)) (by intro e; exact HB.out (Option.some.inj e))
    rw [HPJ.out] at h
    rw [HPJ.out]
    exact h)))
  clear hKA
  go_wp2_with fail
  (with_reducible refine HS256.out.mono ?_)
  rintro e wB ⟨rfl, hbB⟩
  have HBB := Aside0.mk hbB
  clear hbB HS256
  obtain ⟨cs, hcs⟩ : ∃ cs : Array Value, cs = (nums .u8 (sha Kt (pageOf q j))).toArray := ⟨_, rfl⟩
  have hsz : cs.size = 32 := by rw [hcs, List.size_toArray, nums_len, sha_length]
  have hi74 : (Tryd.prog.info? 74).map (·.size) = some cs.size := by rw [hsz]; exact info74
  have h1c : ∀ q ∈ cs.toList, q.oneCell' = true := by rw [hcs]; exact one_nums _
  rw [← hcs]
  have HCS := Aside0.mk hcs
  have HCZ := Aside0.mk hsz
  have HI74 := Aside0.mk hi74
  have H1C := Aside0.mk h1c
  clear hcs hsz hi74 h1c
  go_wp2_with (first
    | ((with_reducible refine gate_dst (N := 30) rfl ?_); refine alloc_known rfl 30 rfl 74 rfl _ zero74 ?_; intro S hS wC hbC hBC; have HS := Aside0.mk hS; have HRC := Aside0.mk hbC; have HBC := Aside0.mk hBC; clear hS hbC hBC)
    | ((with_reducible refine gate_store (t := 74) (p := 30) rfl ?_); refine stop_here ?_))
  unfold Stopped
  refine store_all rfl rfl 74 (.tmp 30) (.tmp 127) rfl S _ 74 (.agg cs) cs.toList rfl rfl rfl (by rw [Array.length_toList]; exact HI74.out) H1C.out HRC.out (by have h := HCZ.out; simp [nums, noughts, h]) ?_
  intro wD hbD hgD
  have hSn : wA.heap.size ≤ S := by have := HS.out; have := HBB.out.size; omega
  have hbAD : Below wA.heap.size wA wD := below_grown (HBB.out.trans (HBC.out.mono HBB.out.size)) hgD hSn
  have hrd : ReadsInt wD .u8 (some ⟨S, 0, none⟩) 32 (sha Kt (pageOf q j)) := ⟨sha_length _ _, by decide, fun _ => ⟨_, rfl, fun jj hjj => by
    rw [Addr.add_lit, Nat.zero_add, blk_cell hbD, HCS.out]
    have hjl : jj < (sha Kt (pageOf q j)).length := by rw [sha_length]; exact hjj
    rw [List.getElem?_toArray, nums_at, List.getD_eq_getElem?_getD, List.getElem?_eq_getElem hjl]
    rfl⟩⟩
  have HRD := Aside0.mk hrd
  have HAD := Aside0.mk hbAD
  have HSD := Aside0.mk (HSA.out.below hbAD)
  clear hbD hgD hSn hbAD hrd
  go_wp2_with fail
  (with_reducible refine (puts G N P 32 32 pre (sha Kt (pageOf q j)) _ _ _ HSD.out HPL.out (by decide) hPN hN62 HRS.out HRD.out).mono ?_)
  rintro e wE ⟨⟨v', rfl, r'⟩, hsE, hgE⟩
  have HRE := Aside0.mk r'
  have HSE := Aside0.mk hsE
  have HGE := Aside0.mk hgE
  obtain ⟨oo, hoo, rfl⟩ := r'
  clear hsE hgE hoo
  go_wp2
  refine HK1.out _ _ _ _ _ _ _ _ _ _ _ _ _ _ _ _ _ _ _ _ _ _ _ _ _ _ _ _ _ _ _ _ _ _ _ _ _ _ _ _ _ _ _ _ _ _ _ _ _ _ _ _ _ _ _ _ HRE.out HSE.out (blk_grown ((HAD.out.block bb (blk_lt HBA.out)).trans HBA.out) HGE.out (fun e => HBG.out (Option.some.inj e))) (((Two.refl wr G bb).grown HGA.out (.inr (.inl rfl))).below HAD.out |>.grown HGE.out (.inl rfl))

set_option maxHeartbeats 16000000 in
set_option maxRecDepth 100000 in
theorem page_end {K : Act → World → Prop} {Q0 : Exit → Act → World → Prop} {v0 v1 v2 v4 v5 v6 v7 v8 v9 v10 v11 v12 v13 v14 v15 v16 v17 v18 v19 v20 v21 v22 v23 v24 v26 v27 v28 v29 v30 v31 v32 v33 v34 v35 v36 v37 v38 v39 v40 v41 v42 v43 v44 v45 v46 v47 v48 v49 v50 v51 v52 v53 v54 v55 v56 v57 v58 v59 v60 v61 v62 v63 v64 v65 v66 v67 v68 v69 v70 v71 v72 v73 v74 v75 v76 v77 v78 v79 v80 v81 v82 v83 v84 v85 v86 v87 v88 v89 v90 v91 v92 v93 v94 v95 v96 v97 v98 v99 v100 v101 v102 v103 v104 v105 v106 v107 v108 v109 v110 v111 v112 v113 v114 v115 v116 v117 v118 v119 v120 v121 v122 v123 v124 v125 v126 v127 v128 v129 v130 : Value} (wr : World) {n p : Nat} (hp : ¬ p < n)
    (hx : ∀ t82 t83 t84 : Value, Q0 (.exit 0) ⟨(v0 :: v1 :: v2 :: (.int .i64 (n : Int) : Value) :: v4 :: v5 :: v6 :: v7 :: v8 :: v9 :: v10 :: v11 :: v12 :: v13 :: v14 :: v15 :: v16 :: v17 :: v18 :: v19 :: v20 :: v21 :: v22 :: v23 :: v24 :: (.int .i64 (p : Int) : Value) :: v26 :: v27 :: v28 :: v29 :: v30 :: v31 :: v32 :: v33 :: v34 :: v35 :: v36 :: v37 :: v38 :: v39 :: v40 :: v41 :: v42 :: v43 :: v44 :: v45 :: v46 :: v47 :: v48 :: v49 :: v50 :: v51 :: v52 :: v53 :: v54 :: v55 :: v56 :: v57 :: v58 :: v59 :: v60 :: v61 :: v62 :: v63 :: v64 :: v65 :: v66 :: v67 :: v68 :: v69 :: v70 :: v71 :: v72 :: v73 :: v74 :: v75 :: v76 :: v77 :: v78 :: v79 :: v80 :: v81 :: t82 :: t83 :: t84 :: v85 :: v86 :: v87 :: v88 :: v89 :: v90 :: v91 :: v92 :: v93 :: v94 :: v95 :: v96 :: v97 :: v98 :: v99 :: v100 :: v101 :: v102 :: v103 :: v104 :: v105 :: v106 :: v107 :: v108 :: v109 :: v110 :: v111 :: v112 :: v113 :: v114 :: v115 :: v116 :: v117 :: v118 :: v119 :: v120 :: v121 :: v122 :: v123 :: v124 :: v125 :: v126 :: v127 :: v128 :: v129 :: v130 :: []).toArray, []⟩ wr) :
    Code.wp Tryd.prog body27 (Exit.then K Q0) ⟨(v0 :: v1 :: v2 :: (.int .i64 (n : Int) : Value) :: v4 :: v5 :: v6 :: v7 :: v8 :: v9 :: v10 :: v11 :: v12 :: v13 :: v14 :: v15 :: v16 :: v17 :: v18 :: v19 :: v20 :: v21 :: v22 :: v23 :: v24 :: (.int .i64 (p : Int) : Value) :: v26 :: v27 :: v28 :: v29 :: v30 :: v31 :: v32 :: v33 :: v34 :: v35 :: v36 :: v37 :: v38 :: v39 :: v40 :: v41 :: v42 :: v43 :: v44 :: v45 :: v46 :: v47 :: v48 :: v49 :: v50 :: v51 :: v52 :: v53 :: v54 :: v55 :: v56 :: v57 :: v58 :: v59 :: v60 :: v61 :: v62 :: v63 :: v64 :: v65 :: v66 :: v67 :: v68 :: v69 :: v70 :: v71 :: v72 :: v73 :: v74 :: v75 :: v76 :: v77 :: v78 :: v79 :: v80 :: v81 :: v82 :: v83 :: v84 :: v85 :: v86 :: v87 :: v88 :: v89 :: v90 :: v91 :: v92 :: v93 :: v94 :: v95 :: v96 :: v97 :: v98 :: v99 :: v100 :: v101 :: v102 :: v103 :: v104 :: v105 :: v106 :: v107 :: v108 :: v109 :: v110 :: v111 :: v112 :: v113 :: v114 :: v115 :: v116 :: v117 :: v118 :: v119 :: v120 :: v121 :: v122 :: v123 :: v124 :: v125 :: v126 :: v127 :: v128 :: v129 :: v130 :: []).toArray, []⟩ wr := by
  conv => arg 2; whnf
  have HX := Aside0.mk hx
  have hpi : ¬ (p : Int) < (n : Int) := by omega
  clear hx hp
  go_wp2
  exact HX.out _ _ _

set_option maxHeartbeats 16000000 in
set_option maxRecDepth 100000 in
theorem loop_buf {Q0 : Exit → Act → World → Prop} {v0 v1 v2 v4 v5 v6 v7 v8 v9 v10 v11 v12 v13 v14 v15 v16 v17 v18 v19 v20 v24 v26 v27 v28 v29 v30 v31 v32 v33 v34 v35 v36 v37 v38 v39 v40 v41 v42 v43 v44 v45 v46 v47 v48 v49 v50 v51 v52 v53 v54 v55 v56 v57 v58 v59 v60 v61 v62 v63 v64 v65 v66 v67 v68 v69 v70 v71 v72 v73 v74 v75 v76 v77 v78 v79 v80 v81 v82 v83 v84 v85 v86 v87 v88 v89 v90 v91 v92 v93 v94 v95 v96 v97 v98 v99 v100 v101 v102 v103 v104 v105 v106 v107 v108 v109 v110 v111 v112 v113 v114 v115 v116 v117 v118 v119 v120 v121 v122 v123 v124 v125 v126 v127 v128 v129 v130 v : Value} (wr : World) {G N P bb b o n c : Nat} {x : Int} {q pre Kt : List Int}
    (hn : n ≤ 2147483647) (hnc : n ≤ c) (hcm : c ≤ 9223372036854775807) (hS : St wr G N pre) (hPL : pre.length = P) (hRS : Rest G N P v) (hPN : P + 32 * ((n + 4095) / 4096) = N) (hN62 : N ≤ 4611686018427387904)
    (hbf : wr.heap[bb]? = some (.cells #[.slice (some ⟨b, o, none⟩) n c, .int .i64 0, .int .i8 x] 51 (0, 0))) (hql : q.length = n) (hq8 : B8 q) (hq : ∀ i, i < n → wr.cell? ⟨b, o + i, none⟩ = some (.int .u8 (q.getD i 0))) (hK4 : Wd wr 43 4 Kt) (hbbG : bb ≠ G) (hb : b ≠ bb) (hbG : b ≠ G) (h4 : 4 ≠ bb) (h4G : 4 ≠ G) (hbl : b < wr.heap.size)
    (hx : ∀ (t21 t25 t26 t27 t28 t29 t30 t82 t83 t84 t85 t86 t87 t88 t89 t90 t91 t92 t93 t94 t95 t96 t97 t98 t99 t100 t101 t102 t103 t104 t105 t106 t107 t108 t109 t110 t111 t112 t113 t114 t115 t116 t117 t118 t119 t120 t121 t122 t123 t124 t125 t126 t127 t128 t129 t130 : Value) (wz : World), St wz G N (pre ++ pagesF Kt q ((n + 4095) / 4096)) → Two wr wz G bb → Q0 (.exit 0) ⟨(v0 :: v1 :: v2 :: (.int .i64 (n : Int) : Value) :: v4 :: v5 :: v6 :: v7 :: v8 :: v9 :: v10 :: v11 :: v12 :: v13 :: v14 :: v15 :: v16 :: v17 :: v18 :: v19 :: v20 :: t21 :: (.pointer (some ⟨bb, 0, none⟩) : Value) :: (.bool true : Value) :: v24 :: t25 :: t26 :: t27 :: t28 :: t29 :: t30 :: v31 :: v32 :: v33 :: v34 :: v35 :: v36 :: v37 :: v38 :: v39 :: v40 :: v41 :: v42 :: v43 :: v44 :: v45 :: v46 :: v47 :: v48 :: v49 :: v50 :: v51 :: v52 :: v53 :: v54 :: v55 :: v56 :: v57 :: v58 :: v59 :: v60 :: v61 :: v62 :: v63 :: v64 :: v65 :: v66 :: v67 :: v68 :: v69 :: v70 :: v71 :: v72 :: v73 :: v74 :: v75 :: v76 :: v77 :: v78 :: v79 :: v80 :: v81 :: t82 :: t83 :: t84 :: t85 :: t86 :: t87 :: t88 :: t89 :: t90 :: t91 :: t92 :: t93 :: t94 :: t95 :: t96 :: t97 :: t98 :: t99 :: t100 :: t101 :: t102 :: t103 :: t104 :: t105 :: t106 :: t107 :: t108 :: t109 :: t110 :: t111 :: t112 :: t113 :: t114 :: t115 :: t116 :: t117 :: t118 :: t119 :: t120 :: t121 :: t122 :: t123 :: t124 :: t125 :: t126 :: t127 :: t128 :: t129 :: t130 :: []).toArray, []⟩ wz) :
    Code.wp Tryd.prog (Code.loop body27) Q0 ⟨(v0 :: v1 :: v2 :: (.int .i64 (n : Int) : Value) :: v4 :: v5 :: v6 :: v7 :: v8 :: v9 :: v10 :: v11 :: v12 :: v13 :: v14 :: v15 :: v16 :: v17 :: v18 :: v19 :: v20 :: v :: (.pointer (some ⟨bb, 0, none⟩) : Value) :: (.bool true : Value) :: v24 :: (.int .i64 0 : Value) :: v26 :: v27 :: v28 :: v29 :: v30 :: v31 :: v32 :: v33 :: v34 :: v35 :: v36 :: v37 :: v38 :: v39 :: v40 :: v41 :: v42 :: v43 :: v44 :: v45 :: v46 :: v47 :: v48 :: v49 :: v50 :: v51 :: v52 :: v53 :: v54 :: v55 :: v56 :: v57 :: v58 :: v59 :: v60 :: v61 :: v62 :: v63 :: v64 :: v65 :: v66 :: v67 :: v68 :: v69 :: v70 :: v71 :: v72 :: v73 :: v74 :: v75 :: v76 :: v77 :: v78 :: v79 :: v80 :: v81 :: v82 :: v83 :: v84 :: v85 :: v86 :: v87 :: v88 :: v89 :: v90 :: v91 :: v92 :: v93 :: v94 :: v95 :: v96 :: v97 :: v98 :: v99 :: v100 :: v101 :: v102 :: v103 :: v104 :: v105 :: v106 :: v107 :: v108 :: v109 :: v110 :: v111 :: v112 :: v113 :: v114 :: v115 :: v116 :: v117 :: v118 :: v119 :: v120 :: v121 :: v122 :: v123 :: v124 :: v125 :: v126 :: v127 :: v128 :: v129 :: v130 :: []).toArray, []⟩ wr := by
  conv => arg 2; arg 1; whnf
  have HX := Aside0.mk hx
  clear hx
  obtain ⟨wo, hwo⟩ : ∃ wo : World, wo = wr := ⟨_, rfl⟩
  subst hwo
  go_loopg [21, 25] ((n + 4095) / 4096) (fun k u21 u25 wi => ∃ (j : Nat) (x : Int), u25 = .int .i64 ((min (4096 * j) n : Nat) : Int) ∧ Aside0 (Rest G N (P + 32 * j) u21) ∧ Aside0 (j + k = (n + 4095) / 4096) ∧ Aside0 (St wi G N (pre ++ pagesF Kt q j)) ∧ Aside0 (wi.heap[bb]? = some (.cells #[.slice (some ⟨b, o, none⟩) n c, .int .i64 ((min (4096 * j) n : Nat) : Int), .int .i8 x] 51 (0, 0))) ∧ Aside0 (Two wo wi G bb))
  case atStart => exact ⟨0, x, by simp, Aside0.mk hRS, Aside0.mk (Nat.zero_add _), Aside0.mk (by rw [pagesF, List.append_nil]; exact hS), Aside0.mk (by simpa using hbf), Aside0.mk (Two.refl _ _ _)⟩
  case round =>
    rename_i K_ hJ_ hK_
    obtain ⟨j, x, rfl, HR, HJ, HS, HB, HT⟩ := hrel
    have hj := HJ.out
    by_cases hk : 4096 * j < n
    · have hm : min (4096 * j) n = 4096 * j := Nat.min_eq_left (by omega)
      rw [hm]
      have hbf2 := HB.out
      rw [hm] at hbf2
      refine page_buf wr (Kt := Kt) (p := 4096 * j) (j := j) (l := min 4096 (n - 4096 * j)) rfl hk rfl hn hnc hcm HS.out (by rw [List.length_append, pagesF_length, hPL]) HR.out (by omega) hN62 hbf2 hql hq8 (fun i hi => ?_) ?_ hbbG hb h4 (Nat.lt_of_lt_of_le hbl HT.out.size) ?_
      · have hc := hq i hi
        exact two_cell HT.out hc hbl hbG hb
      · exact ⟨hK4.len, (HT.out.block 4 (blk_lt hK4.blk) h4G h4).trans hK4.blk⟩
      intro t26 t27 t28 t29 t30 t82 t83 t84 t85 t86 t87 t88 t89 t90 t91 t92 t93 t94 t95 t96 t97 t98 t99 t100 t101 t102 t103 t104 t105 t106 t107 t108 t109 t110 t111 t112 t113 t114 t115 t116 t117 t118 t119 t120 t121 t122 t123 t124 t125 t126 t127 t128 t129 t130 v' wz hr hs hbz hz
      refine hK_ _ _ (Handed.intro (gk - 1) (by omega) (hJ_ _ _ _ ?_))
      (repeat apply Exists.intro)
      have hm2 : min (4096 * (j + 1)) n = 4096 * j + min 4096 (n - 4096 * j) := by omega
      refine ⟨⟨j + 1, -1, ?_, Aside0.mk ?_, Aside0.mk (by omega), Aside0.mk ?_, Aside0.mk ?_, Aside0.mk (two_trans HT.out hz)⟩, rfl⟩
      · rw [hm2]
        push_cast
        rfl
      · rw [show P + 32 * (j + 1) = P + 32 * j + 32 by omega]
        exact hr
      · rw [pagesF, ← List.append_assoc]
        exact hs
      · rw [hm2]
        exact hbz
    · have hm : min (4096 * j) n = n := Nat.min_eq_right (by omega)
      have hjm : j = (n + 4095) / 4096 := by omega
      rw [hm]
      refine page_end wr (by omega) (fun t82 t83 t84 => ?_)
      subst hjm
      exact HX.out _ _ _ _ _ _ _ _ _ _ _ _ _ _ _ _ _ _ _ _ _ _ _ _ _ _ _ _ _ _ _ _ _ _ _ _ _ _ _ _ _ _ _ _ _ _ _ _ _ _ _ _ _ _ _ _ wr HS.out HT.out

end Go.Proofs.YtodofpjdcongnaaDoor.Sign

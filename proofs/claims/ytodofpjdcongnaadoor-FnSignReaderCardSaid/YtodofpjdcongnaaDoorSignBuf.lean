/- codesign.Sign over a bytes.Buffer that holds the code. -/
import Derived.Test.YtodofpjdcongnaaDoorSignG
import Derived.LoopN
namespace Go.Proofs.YtodofpjdcongnaaDoor.Sign
open Go.RowKit Go.Proofs.YtodofpjdcongnaaDoorW.PrintWords

set_option maxHeartbeats 16000000 in
set_option maxRecDepth 100000 in
theorem loop_zero {Q0 : Exit → Act → World → Prop} {v0 v1 v2 v4 v5 v6 v7 v8 v9 v10 v11 v12 v13 v14 v15 v16 v17 v18 v19 v20 v21 v22 v23 v24 v26 v27 v28 v29 v30 v31 v32 v33 v34 v35 v36 v37 v38 v39 v40 v41 v42 v43 v44 v45 v46 v47 v48 v49 v50 v51 v52 v53 v54 v55 v56 v57 v58 v59 v60 v61 v62 v63 v64 v65 v66 v67 v68 v69 v70 v71 v72 v73 v74 v75 v76 v77 v78 v79 v80 v81 v82 v83 v84 v85 v86 v87 v88 v89 v90 v91 v92 v93 v94 v95 v96 v97 v98 v99 v100 v101 v102 v103 v104 v105 v106 v107 v108 v109 v110 v111 v112 v113 v114 v115 v116 v117 v118 v119 v120 v121 v122 v123 v124 v125 v126 v127 v128 v129 v130 : Value} (wr : World)
    (hx : ∀ t82 t83 t84 : Value, Q0 (.exit 0) ⟨(v0 :: v1 :: v2 :: (.int .i64 0 : Value) :: v4 :: v5 :: v6 :: v7 :: v8 :: v9 :: v10 :: v11 :: v12 :: v13 :: v14 :: v15 :: v16 :: v17 :: v18 :: v19 :: v20 :: v21 :: v22 :: v23 :: v24 :: (.int .i64 0 : Value) :: v26 :: v27 :: v28 :: v29 :: v30 :: v31 :: v32 :: v33 :: v34 :: v35 :: v36 :: v37 :: v38 :: v39 :: v40 :: v41 :: v42 :: v43 :: v44 :: v45 :: v46 :: v47 :: v48 :: v49 :: v50 :: v51 :: v52 :: v53 :: v54 :: v55 :: v56 :: v57 :: v58 :: v59 :: v60 :: v61 :: v62 :: v63 :: v64 :: v65 :: v66 :: v67 :: v68 :: v69 :: v70 :: v71 :: v72 :: v73 :: v74 :: v75 :: v76 :: v77 :: v78 :: v79 :: v80 :: v81 :: t82 :: t83 :: t84 :: v85 :: v86 :: v87 :: v88 :: v89 :: v90 :: v91 :: v92 :: v93 :: v94 :: v95 :: v96 :: v97 :: v98 :: v99 :: v100 :: v101 :: v102 :: v103 :: v104 :: v105 :: v106 :: v107 :: v108 :: v109 :: v110 :: v111 :: v112 :: v113 :: v114 :: v115 :: v116 :: v117 :: v118 :: v119 :: v120 :: v121 :: v122 :: v123 :: v124 :: v125 :: v126 :: v127 :: v128 :: v129 :: v130 :: []).toArray, []⟩ wr) :
    Code.wp Tryd.prog (Code.loop body27) Q0 ⟨(v0 :: v1 :: v2 :: (.int .i64 0 : Value) :: v4 :: v5 :: v6 :: v7 :: v8 :: v9 :: v10 :: v11 :: v12 :: v13 :: v14 :: v15 :: v16 :: v17 :: v18 :: v19 :: v20 :: v21 :: v22 :: v23 :: v24 :: (.int .i64 0 : Value) :: v26 :: v27 :: v28 :: v29 :: v30 :: v31 :: v32 :: v33 :: v34 :: v35 :: v36 :: v37 :: v38 :: v39 :: v40 :: v41 :: v42 :: v43 :: v44 :: v45 :: v46 :: v47 :: v48 :: v49 :: v50 :: v51 :: v52 :: v53 :: v54 :: v55 :: v56 :: v57 :: v58 :: v59 :: v60 :: v61 :: v62 :: v63 :: v64 :: v65 :: v66 :: v67 :: v68 :: v69 :: v70 :: v71 :: v72 :: v73 :: v74 :: v75 :: v76 :: v77 :: v78 :: v79 :: v80 :: v81 :: v82 :: v83 :: v84 :: v85 :: v86 :: v87 :: v88 :: v89 :: v90 :: v91 :: v92 :: v93 :: v94 :: v95 :: v96 :: v97 :: v98 :: v99 :: v100 :: v101 :: v102 :: v103 :: v104 :: v105 :: v106 :: v107 :: v108 :: v109 :: v110 :: v111 :: v112 :: v113 :: v114 :: v115 :: v116 :: v117 :: v118 :: v119 :: v120 :: v121 :: v122 :: v123 :: v124 :: v125 :: v126 :: v127 :: v128 :: v129 :: v130 :: []).toArray, []⟩ wr := by
  conv => arg 2; arg 1; whnf
  have HX := Aside0.mk hx
  clear hx
  refine wp_loop_rounds 1 ?_
  rw [rounds_succ]
  go_wp2
  exact HX.out _ _ _

theorem hdr_length (n : Nat) (id : ByteArray) (from_ long : Int) (main : Bool) : (hdr n id from_ long main).length = 109 + id.size := by
  have h : (bytesOf (id ++ ⟨#[0]⟩)).length = id.size + 1 := by
    rw [bytesOf_length, ByteArray.size_append]; rfl
  simp only [hdr, List.length_append, be32_length, be64_length, List.length_cons, List.length_nil, h]
  omega

theorem sign_buf (G N bb b o n c : Nat) (id : ByteArray) (from_ long : Int) (main : Bool) (x : Int) (q Kt : List Int) (w : World) (h : St w G N []) (hN : N = szN n id) (hn : n ≤ 2147483647) (hid : id.size ≤ 2147483647) (hf : -9223372036854775808 ≤ from_ ∧ from_ ≤ 9223372036854775807) (hl : -9223372036854775808 ≤ long ∧ long ≤ 9223372036854775807)
    (hnc : n ≤ c) (hcm : c ≤ 9223372036854775807) (hbf : 0 < n → w.heap[bb]? = some (.cells #[.slice (some ⟨b, o, none⟩) n c, .int .i64 0, .int .i8 x] 51 (0, 0))) (hql : q.length = n) (hq8 : B8 q) (hq : ∀ i, i < n → w.cell? ⟨b, o + i, none⟩ = some (.int .u8 (q.getD i 0))) (hK4 : Wd w 43 4 Kt) (hbbG : bb ≠ G) (hb : 0 < n → b ≠ bb) (hbG : 0 < n → b ≠ G) (h4 : 4 ≠ bb) (h4G : 4 ≠ G) (hbl : 0 < n → b < w.heap.size) :
    Calls Tryd.prog 27 #[.slice (some ⟨G, 0, none⟩) N N, .iface 47 (.pointer (some ⟨bb, 0, none⟩)), .string id, .int .i64 (n : Int), .int .i64 from_, .int .i64 long, .bool main] w fun e w' => e = .returned (.tuple #[]) ∧ St w' G N (hdr n id from_ long main ++ pagesF Kt q ((n + 4095) / 4096)) ∧ Two w w' G bb := by
  refine sign_gen G N bb n id from_ long main _ (.pointer (some ⟨bb, 0, none⟩)) true (pagesF Kt q ((n + 4095) / 4096)) w h hN hn hid hf hl (ta_buf _) ?_
  intro Q0 v0 v2 v4 v5 v6 v7 v8 v9 v10 v11 v12 v13 v14 v15 v16 v17 v18 v19 v20 v26 v27 v28 v29 v30 v31 v32 v33 v34 v35 v36 v37 v38 v39 v40 v41 v42 v43 v44 v45 v46 v47 v48 v49 v50 v51 v52 v53 v54 v55 v56 v57 v58 v59 v60 v61 v62 v63 v64 v65 v66 v67 v68 v69 v70 v71 v72 v73 v74 v75 v76 v77 v78 v79 v80 v81 v82 v83 v84 v85 v86 v87 v88 v89 v90 v91 v92 v93 v94 v95 v96 v97 v98 v99 v100 v101 v102 v103 v104 v105 v106 v107 v108 v109 v110 v111 v112 v113 v114 v115 v116 v117 v118 v119 v120 v121 v122 v123 v124 v125 v126 v127 v128 v129 v130 v W g8 hS hR hT hg hK8 hx
  by_cases h0 : 0 < n
  · refine loop_buf W hn hnc hcm hS (hdr_length _ _ _ _ _) hR (by rw [hN, szN]; omega) (by rw [hN, szN]; omega) ((hT.block bb (blk_lt (hbf h0)) hbbG hbbG).trans (hbf h0)) hql hq8 (fun i hi => two_cell hT (hq i hi) (hbl h0) (hbG h0) (hbG h0)) ⟨hK4.len, (hT.block 4 (blk_lt hK4.blk) h4G h4G).trans hK4.blk⟩ hbbG (hb h0) (hbG h0) h4 h4G (Nat.lt_of_lt_of_le (hbl h0) hT.size) ?_
    intro t21 t25 t26 t27 t28 t29 t30 t82 t83 t84 t85 t86 t87 t88 t89 t90 t91 t92 t93 t94 t95 t96 t97 t98 t99 t100 t101 t102 t103 t104 t105 t106 t107 t108 t109 t110 t111 t112 t113 t114 t115 t116 t117 t118 t119 t120 t121 t122 t123 t124 t125 t126 t127 t128 t129 t130 wz hs ht
    exact hx _ _ _ _ _ _ _ _ _ _ _ _ _ _ _ _ _ _ _ _ _ _ _ _ _ _ _ _ _ _ _ _ _ _ _ _ _ _ _ _ _ _ _ _ _ _ _ _ _ _ _ _ _ _ _ _ wz hs (far_of_two ht hT.size)
  · obtain rfl : n = 0 := by omega
    refine loop_zero W (fun t82 t83 t84 => ?_)
    refine hx _ _ _ _ _ _ _ _ _ _ _ _ _ _ _ _ _ _ _ _ _ _ _ _ _ _ _ _ _ _ _ _ _ _ _ _ _ _ _ _ _ _ _ _ _ _ _ _ _ _ _ _ _ _ _ _ W ?_ (far_of_two (Two.refl _ _ _) hT.size)
    rw [show pagesF Kt q ((0 + 4095) / 4096) = [] from rfl, List.append_nil]
    exact hS

set_option maxHeartbeats 4000000 in
theorem new_buffer (A : Option Addr) (n c : Nat) (w : World) : Calls Tryd.prog 29 #[.slice A n c] w fun e w' => ∃ bb, bb = w.heap.size ∧ e = .returned (.pointer (some ⟨bb, 0, none⟩)) ∧ w'.heap[bb]? = some (.cells #[.slice A n c, .int .i64 0, .int .i8 0] 51 (0, 0)) ∧ Below w.heap.size w w' := by
  go_enter Tryd.func29, Tryd.ntmps29
  go_wp2
  go_ret
  exact ⟨_, rfl, rfl, blk_new w _, below_alloc (Below.refl _ _) _⟩
end Go.Proofs.YtodofpjdcongnaaDoor.Sign

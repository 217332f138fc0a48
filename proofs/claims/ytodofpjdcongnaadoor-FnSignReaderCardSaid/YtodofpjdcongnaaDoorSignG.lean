/- codesign.Sign over whatever reader: the headers, then what its loop does. -/
import Derived.Test.YtodofpjdcongnaaDoorHdr
import Derived.LoopN
import Derived.Test.YtodofpjdcongnaaDoorSignD
import Derived.Test.YtodofpjdcongnaaDoorLoopB
namespace Go.Proofs.YtodofpjdcongnaaDoor.Sign
open Go.RowKit Go.Proofs.YtodofpjdcongnaaDoorW.PrintWords Go.Proofs.YtodofpjdcongnaaDoor.PFnSignHeaders

theorem zero68' : ((Tryd.prog.info? 68).bind (·.zero)).map (·.cells) = some (nums .u8 (noughts 4096)).toArray := by kernel_rfl
/-- below block B, all but G and b are as they were -/
structure Far (B : Nat) (w w' : World) (G b : Nat) : Prop where
  os : w'.os = w.os
  tape : w'.tape = w.tape
  output : w'.output = w.output
  size : w.heap.size ≤ w'.heap.size
  block : ∀ k, k < B → k ≠ G → k ≠ b → w'.heap[k]? = w.heap[k]?
theorem far_of_two {B : Nat} {w w' : World} {G b : Nat} (h : Two w w' G b) (hB : B ≤ w.heap.size) : Far B w w' G b := ⟨h.os, h.tape, h.output, h.size, fun k hk h1 h2 => h.block k (Nat.lt_of_lt_of_le hk hB) h1 h2⟩
theorem two_widen {w a c : World} {G b : Nat} (h : Two w a G G) (k : Far w.heap.size a c G b) : Two w c G b :=
  ⟨k.os.trans h.os, k.tape.trans h.tape, k.output.trans h.output, Nat.le_trans h.size k.size, fun i hi h1 h2 => (k.block i hi h1 h2).trans (h.block i hi h1 h1)⟩

set_option maxHeartbeats 16000000 in
set_option maxRecDepth 100000 in
theorem sign_gen (G N bb n : Nat) (id : ByteArray) (from_ long : Int) (main : Bool) (rv pv : Value) (isB : Bool) (PF : List Int) (w : World) (h : St w G N []) (hN : N = szN n id) (hn : n ≤ 2147483647) (hid : id.size ≤ 2147483647) (hf : -9223372036854775808 ≤ from_ ∧ from_ ≤ 9223372036854775807) (hl : -9223372036854775808 ≤ long ∧ long ≤ 9223372036854775807)
    (hta : ∀ W, (Instr.typeAssert rv 59 47 true).run Tryd.prog W = .ok (.tuple #[pv, .bool isB]) W)
    (HL : ∀ {Q0 : Exit → Act → World → Prop} {v0 v2 v4 v5 v6 v7 v8 v9 v10 v11 v12 v13 v14 v15 v16 v17 v18 v19 v20 v26 v27 v28 v29 v30 v31 v32 v33 v34 v35 v36 v37 v38 v39 v40 v41 v42 v43 v44 v45 v46 v47 v48 v49 v50 v51 v52 v53 v54 v55 v56 v57 v58 v59 v60 v61 v62 v63 v64 v65 v66 v67 v68 v69 v70 v71 v72 v73 v74 v75 v76 v77 v78 v79 v80 v81 v82 v83 v84 v85 v86 v87 v88 v89 v90 v91 v92 v93 v94 v95 v96 v97 v98 v99 v100 v101 v102 v103 v104 v105 v106 v107 v108 v109 v110 v111 v112 v113 v114 v115 v116 v117 v118 v119 v120 v121 v122 v123 v124 v125 v126 v127 v128 v129 v130 v : Value} (W : World) (g8 : Nat), St W G N (hdr n id from_ long main) → Rest G N (109 + id.size) v → Two w W G G → w.heap.size ≤ g8 → W.heap[g8]? = some (.cells (nums .u8 (noughts 4096)).toArray 68 (0, 0)) →
      (∀ (t21 t25 t26 t27 t28 t29 t30 t82 t83 t84 t85 t86 t87 t88 t89 t90 t91 t92 t93 t94 t95 t96 t97 t98 t99 t100 t101 t102 t103 t104 t105 t106 t107 t108 t109 t110 t111 t112 t113 t114 t115 t116 t117 t118 t119 t120 t121 t122 t123 t124 t125 t126 t127 t128 t129 t130 : Value) (wz : World), St wz G N (hdr n id from_ long main ++ PF) → Far w.heap.size W wz G bb → Q0 (.exit 0) ⟨(v0 :: rv :: v2 :: (.int .i64 (n : Int) : Value) :: v4 :: v5 :: v6 :: v7 :: v8 :: v9 :: v10 :: v11 :: v12 :: v13 :: v14 :: v15 :: v16 :: v17 :: v18 :: v19 :: v20 :: t21 :: pv :: (.bool isB : Value) :: (.pointer (some ⟨g8, 0, none⟩) : Value) :: t25 :: t26 :: t27 :: t28 :: t29 :: t30 :: v31 :: v32 :: v33 :: v34 :: v35 :: v36 :: v37 :: v38 :: v39 :: v40 :: v41 :: v42 :: v43 :: v44 :: v45 :: v46 :: v47 :: v48 :: v49 :: v50 :: v51 :: v52 :: v53 :: v54 :: v55 :: v56 :: v57 :: v58 :: v59 :: v60 :: v61 :: v62 :: v63 :: v64 :: v65 :: v66 :: v67 :: v68 :: v69 :: v70 :: v71 :: v72 :: v73 :: v74 :: v75 :: v76 :: v77 :: v78 :: v79 :: v80 :: v81 :: t82 :: t83 :: t84 :: t85 :: t86 :: t87 :: t88 :: t89 :: t90 :: t91 :: t92 :: t93 :: t94 :: t95 :: t96 :: t97 :: t98 :: t99 :: t100 :: t101 :: t102 :: t103 :: t104 :: t105 :: t106 :: t107 :: t108 :: t109 :: t110 :: t111 :: t112 :: t113 :: t114 :: t115 :: t116 :: t117 :: t118 :: t119 :: t120 :: t121 :: t122 :: t123 :: t124 :: t125 :: t126 :: t127 :: t128 :: t129 :: t130 :: []).toArray, []⟩ wz) → Code.wp Tryd.prog (Code.loop body27) Q0 ⟨(v0 :: rv :: v2 :: (.int .i64 (n : Int) : Value) :: v4 :: v5 :: v6 :: v7 :: v8 :: v9 :: v10 :: v11 :: v12 :: v13 :: v14 :: v15 :: v16 :: v17 :: v18 :: v19 :: v20 :: v :: pv :: (.bool isB : Value) :: (.pointer (some ⟨g8, 0, none⟩) : Value) :: (.int .i64 0 : Value) :: v26 :: v27 :: v28 :: v29 :: v30 :: v31 :: v32 :: v33 :: v34 :: v35 :: v36 :: v37 :: v38 :: v39 :: v40 :: v41 :: v42 :: v43 :: v44 :: v45 :: v46 :: v47 :: v48 :: v49 :: v50 :: v51 :: v52 :: v53 :: v54 :: v55 :: v56 :: v57 :: v58 :: v59 :: v60 :: v61 :: v62 :: v63 :: v64 :: v65 :: v66 :: v67 :: v68 :: v69 :: v70 :: v71 :: v72 :: v73 :: v74 :: v75 :: v76 :: v77 :: v78 :: v79 :: v80 :: v81 :: v82 :: v83 :: v84 :: v85 :: v86 :: v87 :: v88 :: v89 :: v90 :: v91 :: v92 :: v93 :: v94 :: v95 :: v96 :: v97 :: v98 :: v99 :: v100 :: v101 :: v102 :: v103 :: v104 :: v105 :: v106 :: v107 :: v108 :: v109 :: v110 :: v111 :: v112 :: v113 :: v114 :: v115 :: v116 :: v117 :: v118 :: v119 :: v120 :: v121 :: v122 :: v123 :: v124 :: v125 :: v126 :: v127 :: v128 :: v129 :: v130 :: []).toArray, []⟩ W) :
    Calls Tryd.prog 27 #[.slice (some ⟨G, 0, none⟩) N N, rv, .string id, .int .i64 (n : Int), .int .i64 from_, .int .i64 long, .bool main] w fun e w' => e = .returned (.tuple #[]) ∧ St w' G N (hdr n id from_ long main ++ PF) ∧ Two w w' G bb := by
  have hsz := size_is n id (by omega) hid
  rw [← hN] at hsz
  have hk : (n + 4095) / 4096 ≤ 524288 := by omega
  have hNb : 109 + id.size ≤ N ∧ N ≤ 109 + id.size + 524288 * 32 := by unfold szN at hN; omega
  have HSZ := Aside0.mk hsz
  have HN := Aside0.mk hN
  have H := Aside0.mk h
  have HTA := Aside0.mk hta
  have HLL := Aside0.mk @HL
  obtain ⟨hNb1, hNb2⟩ := hNb
  obtain ⟨hf1, hf2⟩ := hf
  obtain ⟨hl1, hl2⟩ := hl
  have hu61 := Tryd.underlying61
  have hu63 := Tryd.underlying63
  have hu65 := Tryd.underlying65
  clear hsz hN h hk hta HL
  go_enter Tryd.func27, Tryd.ntmps27
  go_wp2_with fail
  (with_reducible refine (codesign_Size.calls _ _ _ _ HSZ.out).mono ?_)
  rintro e w1 ⟨rfl, hd⟩
  have HD := Aside0.mk hd.below
  clear hd
  have hz1 : (w1.alloc (.cells #[.int .u32 4208856256, .int .u32 (N : Int), .int .u32 1] 61)).heap.size = w1.heap.size + 1 := by simp
  have hz2 : ((w1.alloc (.cells #[.int .u32 4208856256, .int .u32 (N : Int), .int .u32 1] 61)).alloc (.cells #[.int .u32 0, .int .u32 20] 63)).heap.size = w1.heap.size + 1 + 1 := by simp
  have HZ1 := Aside0.mk hz1
  have HZ2 := Aside0.mk hz2
  clear hz1 hz2
  go_wp2_with ((with_reducible refine gate_store (t := 65) (p := 20) rfl ?_); refine stop_here ?_)
  unfold Stopped
  refine store_all rfl rfl 65 (.tmp 20) (.tmp 62) rfl (w1.heap.size + 1 + 1) #[.int .u32 0, .int .u32 0, .int .u32 0, .int .u32 0, .int .u32 0, .int .u32 0, .int .u32 0, .int .u32 0, .int .u32 0, .int .u8 0, .int .u8 0, .int .u8 0, .int .u8 0, .int .u32 0, .int .u32 0, .int .u32 0, .int .u32 0, .int .u64 0, .int .u64 0, .int .u64 0, .int .u64 0] 65 _ [.int .u32 4208856066, .int .u32 ((N : Int) - 20), .int .u32 132096, .int .u32 131074, .int .u32 (88 + ((id.size : Int) + 1)), .int .u32 88, .int .u32 0, .int .u32 (((n : Int) + 4096 - 1) / 4096), .int .u32 (n : Int), .int .u8 32, .int .u8 2, .int .u8 0, .int .u8 12, .int .u32 0, .int .u32 0, .int .u32 0, .int .u32 0, .int .u64 0, .int .u64 (IntKind.u64.wrap from_), .int .u64 (IntKind.u64.wrap long), .int .u64 0] rfl rfl rfl (by kernel_rfl) (by simp [Value.oneCell']) (by rw [← HZ2.out]; exact blk_new _ _) rfl ?_
  intro w2 hb2 hg2
  have hgl : G < w.heap.size := blk_lt H.out.2
  have hw1 := HD.out.size
  have hS1 : St w1 G N [] := ⟨H.out.1, (HD.out.block G hgl).trans H.out.2⟩
  have hS2 : St w2 G N [] := ((((hS1.grown (World.grownBy_alloc _ _ none) (by simp)).grown (World.grownBy_alloc _ _ none) (by simp)).grown (World.grownBy_alloc _ _ none) (by simp)).grown hg2 (by intro e; injection e with e; omega))
  have hb0 := blk_grown (blk_grown (blk_grown (blk_new w1 (.cells #[.int .u32 4208856256, .int .u32 (N : Int), .int .u32 1] 61)) (World.grownBy_alloc _ (.cells #[.int .u32 0, .int .u32 20] 63) none) (by simp)) (World.grownBy_alloc _ _ none) (by simp)) hg2 (by intro e; injection e with e; omega)
  have hb1' := blk_new (w1.alloc (.cells #[.int .u32 4208856256, .int .u32 (N : Int), .int .u32 1] 61)) (.cells #[.int .u32 0, .int .u32 20] 63)
  rw [HZ1.out] at hb1'
  have hb1 := blk_grown (blk_grown hb1' (World.grownBy_alloc _ _ none) (by simp)) hg2 (by intro e; injection e with e; omega)
  have hk2 : ∀ k, k < w.heap.size → k ≠ G → k ≠ G → w2.heap[k]? = w.heap[k]? := fun k hk _ _ => by
    rw [hg2.block k (by simp; omega) (by intro e; injection e with e; omega)]
    rw [heap_alloc_old _ _ (by simp; omega), heap_alloc_old _ _ (by simp; omega), heap_alloc_old _ _ (by omega)]
    exact HD.out.block k hk
  have HS2 := Aside0.mk hS2
  have HSB := Aside0.mk hb0
  have HBL := Aside0.mk hb1
  have HK2 := Aside0.mk hk2
  have ht2 : Two w w2 G G := ⟨hg2.os.trans HD.out.os, hg2.tape.trans HD.out.tape, hg2.output.trans HD.out.output, by have := hg2.size; simp at this; omega, hk2⟩
  have HT2 := Aside0.mk ht2
  have HCD := Aside0.mk hb2
  have HR0 : Aside0 (Rest G N 0 (.slice (some ⟨G, 0, none⟩) N N)) := Aside0.mk ⟨0, .inl rfl, rfl⟩
  clear hgl hw1 hS1 hS2 hb0 hb1' hb1 hk2 hb2 hg2 ht2
  have hkb := fun (q : ByteArray) (W : World) => print_bytes (P := Tryd.prog) 9 22 5 Tryd.underlying9 Tryd.underlying22 Tryd.underlying5 q W
  have hsid : (id ++ (⟨#[0]⟩ : ByteArray)).size = id.size + 1 := by rw [ByteArray.size_append]; rfl
  have HSID := Aside0.mk hsid
  clear hsid
  cases main
  case false =>
    obtain ⟨m20, hm20⟩ : ∃ m : Int, m = 0 := ⟨_, rfl⟩
    have HCX : Aside0 (w2.heap[w1.heap.size + 1 + 1]? = some (.cells #[.int .u32 4208856066, .int .u32 ((N : Int) - 20), .int .u32 132096, .int .u32 131074, .int .u32 (88 + ((id.size : Int) + 1)), .int .u32 88, .int .u32 0, .int .u32 (((n : Int) + 4096 - 1) / 4096), .int .u32 (n : Int), .int .u8 32, .int .u8 2, .int .u8 0, .int .u8 12, .int .u32 0, .int .u32 0, .int .u32 0, .int .u32 0, .int .u64 0, .int .u64 (IntKind.u64.wrap from_), .int .u64 (IntKind.u64.wrap long), .int .u64 m20] 65 (0, 0))) := Aside0.mk (by rw [hm20]; exact HCD.out)
    have hmb : 0 ≤ m20 ∧ m20 < 18446744073709551616 := by omega
    have HMB := Aside0.mk hmb
    have HME : Aside0 (m20 = if false = true then 1 else 0) := Aside0.mk (by rw [hm20]; rfl)
    clear hm20 hmb
    go_wp2_with fail
    (with_reducible refine (sb_put G N 0 w1.heap.size [] _ _ _ _ _ HS2.out rfl (by omega) HSB.out (by omega) (by omega) (by omega) HR0.out).mono ?_)
    rintro e w3 ⟨⟨v3, rfl, r3⟩, h3, g3⟩
    rw [List.nil_append] at h3
    have HR3 : Aside0 (Rest G N 12 v3) := Aside0.mk r3
    have HS3 := Aside0.mk h3
    have HBL3 := Aside0.mk (blk_grown HBL.out g3 (by intro e; injection e with e; have := blk_lt H.out.2; have := HD.out.size; omega))
    have HCX3 := Aside0.mk (blk_grown HCX.out g3 (by intro e; injection e with e; have := blk_lt H.out.2; have := HD.out.size; omega))
    have HG3 := Aside0.mk g3
    obtain ⟨o3, ho3, rfl⟩ := r3
    clear h3 g3 ho3
    go_wp2_with fail
    (with_reducible refine (blob_put G N 12 (w1.heap.size + 1) _ _ _ _ _ HS3.out rfl (by omega) HBL3.out (by omega) (by omega) HR3.out).mono ?_)
    rintro e w4 ⟨⟨v4, rfl, r4⟩, h4, g4⟩
    have HR4 : Aside0 (Rest G N 20 v4) := Aside0.mk r4
    have HS4 := Aside0.mk h4
    have HCX4 := Aside0.mk (blk_grown HCX3.out g4 (by intro e; injection e with e; have := blk_lt H.out.2; have := HD.out.size; omega))
    have HG4 := Aside0.mk (HG3.out.trans g4)
    obtain ⟨o4, ho4, rfl⟩ := r4
    clear h4 g4 ho4
    go_wp2_with fail
    (with_reducible refine (cd_put G N 20 (w1.heap.size + 1 + 1) _ _ _ _ _ _ _ _ _ _ _ _ _ _ _ _ _ _ _ _ _ _ _ _ HS4.out rfl (by omega) HCX4.out (by omega) (by omega) (by omega) (by omega) (by omega) (by omega) (by omega) (by omega) (by omega) (by omega) (by omega) (by omega) (by omega) (by omega) (wrap_b from_) (wrap_b long) HMB.out HR4.out).mono ?_)
    rintro e w5 ⟨⟨v5, rfl, r5⟩, h5, g5⟩
    have HR5 : Aside0 (Rest G N 108 v5) := Aside0.mk r5
    have HS5 := Aside0.mk h5
    have HG5 := Aside0.mk (HG4.out.trans g5)
    obtain ⟨o5, ho5, rfl⟩ := r5
    clear h5 g5 ho5
    go_wp2_with fail
    have hbw := bytes_below (Below.refl w5.heap.size w5) (Nat.le_refl _) 5 (id ++ ⟨#[0]⟩)
    have HB6 := Aside0.mk hbw
    have HS6 := Aside0.mk (HS5.out.below hbw)
    have hrd := bytes_reads w5 5 (id ++ ⟨#[0]⟩) (by rw [HSID.out]; omega)
    rw [HSID.out] at hrd
    have HRD := Aside0.mk hrd
    have hr5' := HR5.out
    clear hbw hrd
    (with_reducible refine (puts G N 108 (id.size + 1) _ _ (bytesOf (id ++ ⟨#[0]⟩)) _ _ _ HS6.out rfl (by omega) (by omega) (by omega) hr5' HRD.out).mono ?_)
    rintro e w7 ⟨⟨v7, rfl, r7⟩, h7, g7⟩
    have HR7 : Aside0 (Rest G N (109 + id.size) v7) := Aside0.mk (by rw [show 109 + id.size = 108 + (id.size + 1) by omega]; exact r7)
    have HS7 := Aside0.mk h7
    have HG7 := Aside0.mk g7
    obtain ⟨o7, ho7, rfl⟩ := r7
    clear h7 g7 ho7 hr5'
    have hta := HTA.out
    go_wp2_with ((with_reducible refine gate_dst (N := 24) rfl ?_); refine alloc_known rfl 24 rfl 68 rfl _ zero68' ?_; intro g8 hg8 w8 hk8 hb8; have HB8 := Aside0.mk hb8; have HG8 := Aside0.mk hg8; have HK8 := Aside0.mk hk8; clear hb8 hg8 hk8)
    clear hta
    have hg27 := (HG5.out.trans (grown_of_below HB6.out _)).trans HG7.out
    have HGW := Aside0.mk hg27.size
    have hg28 := hg27.trans (grown_of_below HB8.out _)
    clear hg27
    have HT8 := Aside0.mk (HT2.out.grown hg28 (.inl rfl))
    have hs8 := HS7.out.below HB8.out
    have hs8' : St w8 G N (hdr n id from_ long false) := by
      rw [HME.out, HN.out] at hs8
      rw [HN.out]
      exact hs8
    have HS8 := Aside0.mk hs8'
    clear hg28 hs8 hs8' HS2 HSB HBL HK2 HCD HR0 HSID HCX HMB HME HS3 HBL3 HCX3 HG3 HR3 HS4 HCX4 HG4 HR4 HS5 HG5 HR5 HB6 HS6 HRD HS7 HG7 hkb HZ1 HZ2
    have hwg : w.heap.size ≤ g8 := by have := HG8.out; have := HT2.out.size; have := HGW.out; omega
    (refine HLL.out w8 g8 HS8.out HR7.out HT8.out hwg HK8.out ?_)
    intro t21 t25 t26 t27 t28 t29 t30 t82 t83 t84 t85 t86 t87 t88 t89 t90 t91 t92 t93 t94 t95 t96 t97 t98 t99 t100 t101 t102 t103 t104 t105 t106 t107 t108 t109 t110 t111 t112 t113 t114 t115 t116 t117 t118 t119 t120 t121 t122 t123 t124 t125 t126 t127 t128 t129 t130 wz hs ht
    have HS9 := Aside0.mk hs
    have HT9 := Aside0.mk ht
    clear hs ht hwg
    go_wp2
    go_end0
    exact ⟨rfl, HS9.out, two_widen HT8.out HT9.out⟩
  case true =>
    have hc20 : w2.cell? ⟨w1.heap.size + 1 + 1, 20, none⟩ = some (.int .u64 0) := (blk_cell HCD.out 20).trans rfl
    have hf20 := blk_frozen HCD.out 20
    go_wp2_with fail
    obtain ⟨wm, hwm⟩ : ∃ wm, wm = w2.setCell ⟨w1.heap.size + 1 + 1, 20, none⟩ (.int .u64 1) := ⟨_, rfl⟩
    have hgm : w2.grownBy wm (some (w1.heap.size + 1 + 1)) := by rw [hwm]; exact grown_put _ _ _ _
    obtain ⟨m20, hm20⟩ : ∃ m : Int, m = 1 := ⟨_, rfl⟩
    have hbm : wm.heap[w1.heap.size + 1 + 1]? = some (.cells #[.int .u32 4208856066, .int .u32 ((N : Int) - 20), .int .u32 132096, .int .u32 131074, .int .u32 (88 + ((id.size : Int) + 1)), .int .u32 88, .int .u32 0, .int .u32 (((n : Int) + 4096 - 1) / 4096), .int .u32 (n : Int), .int .u8 32, .int .u8 2, .int .u8 0, .int .u8 12, .int .u32 0, .int .u32 0, .int .u32 0, .int .u32 0, .int .u64 0, .int .u64 (IntKind.u64.wrap from_), .int .u64 (IntKind.u64.wrap long), .int .u64 m20] 65 (0, 0)) := by
      rw [hwm, hm20]
      exact blk_put HCD.out 20 _ rfl
    rw [← hwm]
    have HCX := Aside0.mk hbm
    have hmb : 0 ≤ m20 ∧ m20 < 18446744073709551616 := by omega
    have HMB := Aside0.mk hmb
    have HME : Aside0 (m20 = if true = true then 1 else 0) := Aside0.mk (by rw [hm20]; rfl)
    have hgl : G < w.heap.size := blk_lt H.out.2
    have hw1 := HD.out.size
    have n1_ := Aside0.mk (HS2.out.grown hgm (by intro e; injection e with e; omega))
    have n3_ := Aside0.mk (blk_grown HSB.out hgm (by intro e; injection e with e; omega))
    have n4_ := Aside0.mk (blk_grown HBL.out hgm (by intro e; injection e with e; omega))
    have n5_ := Aside0.mk (HT2.out.grown hgm (.inr (.inr (by omega))))
    clear HS2 HSB HBL HT2 HK2
    have HS2 := n1_
    have HSB := n3_
    have HBL := n4_
    have HT2 := n5_
    clear n1_ n3_ n4_ n5_ hwm hgm hbm hm20 hmb hgl hw1 hc20 hf20
    (with_reducible refine (sb_put G N 0 w1.heap.size [] _ _ _ _ _ HS2.out rfl (by omega) HSB.out (by omega) (by omega) (by omega) HR0.out).mono ?_)
    rintro e w3 ⟨⟨v3, rfl, r3⟩, h3, g3⟩
    rw [List.nil_append] at h3
    have HR3 : Aside0 (Rest G N 12 v3) := Aside0.mk r3
    have HS3 := Aside0.mk h3
    have HBL3 := Aside0.mk (blk_grown HBL.out g3 (by intro e; injection e with e; have := blk_lt H.out.2; have := HD.out.size; omega))
    have HCX3 := Aside0.mk (blk_grown HCX.out g3 (by intro e; injection e with e; have := blk_lt H.out.2; have := HD.out.size; omega))
    have HG3 := Aside0.mk g3
    obtain ⟨o3, ho3, rfl⟩ := r3
    clear h3 g3 ho3
    go_wp2_with fail
    (with_reducible refine (blob_put G N 12 (w1.heap.size + 1) _ _ _ _ _ HS3.out rfl (by omega) HBL3.out (by omega) (by omega) HR3.out).mono ?_)
    rintro e w4 ⟨⟨v4, rfl, r4⟩, h4, g4⟩
    have HR4 : Aside0 (Rest G N 20 v4) := Aside0.mk r4
    have HS4 := Aside0.mk h4
    have HCX4 := Aside0.mk (blk_grown HCX3.out g4 (by intro e; injection e with e; have := blk_lt H.out.2; have := HD.out.size; omega))
    have HG4 := Aside0.mk (HG3.out.trans g4)
    obtain ⟨o4, ho4, rfl⟩ := r4
    clear h4 g4 ho4
    go_wp2_with fail
    (with_reducible refine (cd_put G N 20 (w1.heap.size + 1 + 1) _ _ _ _ _ _ _ _ _ _ _ _ _ _ _ _ _ _ _ _ _ _ _ _ HS4.out rfl (by omega) HCX4.out (by omega) (by omega) (by omega) (by omega) (by omega) (by omega) (by omega) (by omega) (by omega) (by omega) (by omega) (by omega) (by omega) (by omega) (wrap_b from_) (wrap_b long) HMB.out HR4.out).mono ?_)
    rintro e w5 ⟨⟨v5, rfl, r5⟩, h5, g5⟩
    have HR5 : Aside0 (Rest G N 108 v5) := Aside0.mk r5
    have HS5 := Aside0.mk h5
    have HG5 := Aside0.mk (HG4.out.trans g5)
    obtain ⟨o5, ho5, rfl⟩ := r5
    clear h5 g5 ho5
    go_wp2_with fail
    have hbw := bytes_below (Below.refl w5.heap.size w5) (Nat.le_refl _) 5 (id ++ ⟨#[0]⟩)
    have HB6 := Aside0.mk hbw
    have HS6 := Aside0.mk (HS5.out.below hbw)
    have hrd := bytes_reads w5 5 (id ++ ⟨#[0]⟩) (by rw [HSID.out]; omega)
    rw [HSID.out] at hrd
    have HRD := Aside0.mk hrd
    have hr5' := HR5.out
    clear hbw hrd
    (with_reducible refine (puts G N 108 (id.size + 1) _ _ (bytesOf (id ++ ⟨#[0]⟩)) _ _ _ HS6.out rfl (by omega) (by omega) (by omega) hr5' HRD.out).mono ?_)
    rintro e w7 ⟨⟨v7, rfl, r7⟩, h7, g7⟩
    have HR7 : Aside0 (Rest G N (109 + id.size) v7) := Aside0.mk (by rw [show 109 + id.size = 108 + (id.size + 1) by omega]; exact r7)
    have HS7 := Aside0.mk h7
    have HG7 := Aside0.mk g7
    obtain ⟨o7, ho7, rfl⟩ := r7
    clear h7 g7 ho7 hr5'
    have hta := HTA.out
    go_wp2_with ((with_reducible refine gate_dst (N := 24) rfl ?_); refine alloc_known rfl 24 rfl 68 rfl _ zero68' ?_; intro g8 hg8 w8 hk8 hb8; have HB8 := Aside0.mk hb8; have HG8 := Aside0.mk hg8; have HK8 := Aside0.mk hk8; clear hb8 hg8 hk8)
    clear hta
    have hg27 := (HG5.out.trans (grown_of_below HB6.out _)).trans HG7.out
    have HGW := Aside0.mk hg27.size
    have hg28 := hg27.trans (grown_of_below HB8.out _)
    clear hg27
    have HT8 := Aside0.mk (HT2.out.grown hg28 (.inl rfl))
    have hs8 := HS7.out.below HB8.out
    have hs8' : St w8 G N (hdr n id from_ long true) := by
      rw [HME.out, HN.out] at hs8
      rw [HN.out]
      exact hs8
    have HS8 := Aside0.mk hs8'
    clear hg28 hs8 hs8' HS2 HSB HBL HCD HR0 HSID HCX HMB HME HS3 HBL3 HCX3 HG3 HR3 HS4 HCX4 HG4 HR4 HS5 HG5 HR5 HB6 HS6 HRD HS7 HG7 hkb HZ1 HZ2
    have hwg : w.heap.size ≤ g8 := by have := HG8.out; have := HT2.out.size; have := HGW.out; omega
    (refine HLL.out w8 g8 HS8.out HR7.out HT8.out hwg HK8.out ?_)
    intro t21 t25 t26 t27 t28 t29 t30 t82 t83 t84 t85 t86 t87 t88 t89 t90 t91 t92 t93 t94 t95 t96 t97 t98 t99 t100 t101 t102 t103 t104 t105 t106 t107 t108 t109 t110 t111 t112 t113 t114 t115 t116 t117 t118 t119 t120 t121 t122 t123 t124 t125 t126 t127 t128 t129 t130 wz hs ht
    have HS9 := Aside0.mk hs
    have HT9 := Aside0.mk ht
    clear hs ht hwg
    go_wp2
    go_end0
    exact ⟨rfl, HS9.out, two_widen HT8.out HT9.out⟩

end Go.Proofs.YtodofpjdcongnaaDoor.Sign


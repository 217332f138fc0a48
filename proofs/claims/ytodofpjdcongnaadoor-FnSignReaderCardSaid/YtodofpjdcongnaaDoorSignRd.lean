/- codesign.Sign, its door and the thin package's over a bytes.Reader. -/
import Derived.Test.YtodofpjdcongnaaDoorLoopR
import Derived.Test.YtodofpjdcongnaaDoorLawL
namespace Go.Proofs.YtodofpjdcongnaaDoor.Sign
open Go.RowKit Go.Proofs.YtodofpjdcongnaaDoorW.PrintWords Go.Proofs.YtodofpjdcongnaaDoor.PFnSignHeaders

theorem ta_rd (p : Value) (W : World) : (Instr.typeAssert (.iface 54 p) 59 47 true).run Tryd.prog W = .ok (.tuple #[.pointer none, .bool false]) W := by kernel_rfl

theorem Er.below {w w1 : World} {ae au : Addr} {B : Nat} (h : Er w ae au) (hb : Below B w w1) (hB : B = w.heap.size := by rfl) : Er w1 ae au := by
  subst hB
  refine ⟨(hb.cell (p := ⟨0, 0, none⟩) (cell_lt h.c0)).trans h.c0, (hb.cell (p := ⟨1, 0, none⟩) (cell_lt h.c1)).trans h.c1, h.ne, ?_, ?_⟩
  · obtain ⟨ca, ta, hh⟩ := h.be
    exact ⟨ca, ta, (hb.block _ (blk_lt hh)).trans hh⟩
  · obtain ⟨ca, ta, hh⟩ := h.bu
    exact ⟨ca, ta, (hb.block _ (blk_lt hh)).trans hh⟩

theorem sign_rd (G N rb b o n c : Nat) (id : ByteArray) (from_ long : Int) (main : Bool) (x : Int) (q Kt : List Int) (ae au : Addr) (w : World) (h : St w G N []) (hN : N = szN n id) (hn : n ≤ 2147483647) (hid : id.size ≤ 2147483647) (hf : -9223372036854775808 ≤ from_ ∧ from_ ≤ 9223372036854775807) (hl : -9223372036854775808 ≤ long ∧ long ≤ 9223372036854775807)
    (hnc : n ≤ c) (hbf : 0 < n → w.heap[rb]? = some (.cells #[.slice (some ⟨b, o, none⟩) n c, .int .i64 0, .int .i64 x] 77 (0, 0))) (hql : q.length = n) (hq8 : B8 q) (hq : ∀ i, i < n → w.cell? ⟨b, o + i, none⟩ = some (.int .u8 (q.getD i 0))) (hK4 : Wd w 43 4 Kt) (hE : Er w ae au)
    (B0 : Nat) (hB0 : B0 ≤ w.heap.size) (hG0 : B0 ≤ G) (hr0 : B0 ≤ rb) (hrG : rb ≠ G) (_h0 : 0 < B0) (_h1 : 1 < B0) (h4 : 4 < B0) (he : ae.block < B0) (hu : au.block < B0) (hb : 0 < n → b < B0) :
    Calls Tryd.prog 27 #[.slice (some ⟨G, 0, none⟩) N N, .iface 54 (.pointer (some ⟨rb, 0, none⟩)), .string id, .int .i64 (n : Int), .int .i64 from_, .int .i64 long, .bool main] w fun e w' => e = .returned (.tuple #[]) ∧ St w' G N (hdr n id from_ long main ++ pagesF Kt q ((n + 4095) / 4096)) ∧ Two w w' G rb := by
  refine sign_gen G N rb n id from_ long main _ (.pointer none) false (pagesF Kt q ((n + 4095) / 4096)) w h hN hn hid hf hl (ta_rd _) ?_
  intro Q0 v0 v2 v4 v5 v6 v7 v8 v9 v10 v11 v12 v13 v14 v15 v16 v17 v18 v19 v20 v26 v27 v28 v29 v30 v31 v32 v33 v34 v35 v36 v37 v38 v39 v40 v41 v42 v43 v44 v45 v46 v47 v48 v49 v50 v51 v52 v53 v54 v55 v56 v57 v58 v59 v60 v61 v62 v63 v64 v65 v66 v67 v68 v69 v70 v71 v72 v73 v74 v75 v76 v77 v78 v79 v80 v81 v82 v83 v84 v85 v86 v87 v88 v89 v90 v91 v92 v93 v94 v95 v96 v97 v98 v99 v100 v101 v102 v103 v104 v105 v106 v107 v108 v109 v110 v111 v112 v113 v114 v115 v116 v117 v118 v119 v120 v121 v122 v123 v124 v125 v126 v127 v128 v129 v130 v W g8 hS hR hT hg hK8 hx
  by_cases hn0 : 0 < n
  · have hb0 := hb hn0
    have hO : Offs ae au b G rb g8 := ⟨⟨by omega, by omega, by omega⟩, ⟨by omega, by omega, by omega⟩, ⟨by omega, by omega, by omega⟩, ⟨by omega, by omega, by omega⟩, ⟨by omega, by omega, by omega⟩, ⟨by omega, by omega, by omega⟩⟩
    have hO2 : Offs ae au b G G G := ⟨⟨hO.z.h0, hO.z.h0, hO.z.h0⟩, ⟨hO.u.h0, hO.u.h0, hO.u.h0⟩, ⟨hO.t.h0, hO.t.h0, hO.t.h0⟩, ⟨hO.e.h0, hO.e.h0, hO.e.h0⟩, ⟨hO.f.h0, hO.f.h0, hO.f.h0⟩, ⟨hO.b.h0, hO.b.h0, hO.b.h0⟩⟩
    have hTri : Tri w W G G G := Tri.two hT
    have hrl : rb < w.heap.size := blk_lt (hbf hn0)
    refine loop_rd W hn hnc hS (hdr_length _ _ _ _ _) hR (by rw [hN, szN]; omega) (by rw [hN, szN]; omega) ((hT.block rb hrl hrG hrG).trans (hbf hn0)) ⟨List.length_replicate, hK8⟩ (hE.tri hTri hO2) hO hql hq8 (fun i hi => hTri.cell (hq i hi) hO2.b) ⟨hK4.len, (hT.block 4 (blk_lt hK4.blk) hO.t.h0 hO.t.h0).trans hK4.blk⟩ hrG (by have := blk_lt h.2; omega) (by omega) ?_
    intro t21 t25 t26 t27 t28 t29 t30 t82 t83 t84 t85 t86 t87 t88 t89 t90 t91 t92 t93 t94 t95 t96 t97 t98 t99 t100 t101 t102 t103 t104 t105 t106 t107 t108 t109 t110 t111 t112 t113 t114 t115 t116 t117 t118 t119 t120 t121 t122 t123 t124 t125 t126 t127 t128 t129 t130 wz hs ht
    exact hx _ _ _ _ _ _ _ _ _ _ _ _ _ _ _ _ _ _ _ _ _ _ _ _ _ _ _ _ _ _ _ _ _ _ _ _ _ _ _ _ _ _ _ _ _ _ _ _ _ _ _ _ _ _ _ _ wz hs ⟨ht.os, ht.tape, ht.output, ht.size, fun k hk k1 k2 => ht.block k (Nat.lt_of_lt_of_le hk hT.size) k1 k2 (by omega)⟩
  · obtain rfl : n = 0 := by omega
    refine loop_zero W (fun t82 t83 t84 => ?_)
    refine hx _ _ _ _ _ _ _ _ _ _ _ _ _ _ _ _ _ _ _ _ _ _ _ _ _ _ _ _ _ _ _ _ _ _ _ _ _ _ _ _ _ _ _ _ _ _ _ _ _ _ _ _ _ _ _ _ W ?_ (far_of_two (Two.refl _ _ _) hT.size)
    rw [show pagesF Kt q ((0 + 4095) / 4096) = [] from rfl, List.append_nil]
    exact hS

set_option maxHeartbeats 4000000 in
theorem new_reader (A : Option Addr) (n c : Nat) (w : World) : Calls Tryd.prog 30 #[.slice A n c] w fun e w' => ∃ bb, bb = w.heap.size ∧ e = .returned (.pointer (some ⟨bb, 0, none⟩)) ∧ w'.heap[bb]? = some (.cells #[.slice A n c, .int .i64 0, .int .i64 (-1)] 77 (0, 0)) ∧ Below w.heap.size w w' := by
  go_enter Tryd.func30, Tryd.ntmps30
  go_wp2
  go_ret
  exact ⟨_, rfl, rfl, blk_new w _, below_alloc (Below.refl _ _) _⟩

set_option maxHeartbeats 8000000 in
set_option maxRecDepth 100000 in
theorem zz_sign_rd (N n c : Nat) (A : Option Addr) (q Kt : List Int) (ae au : Addr) (id : ByteArray) (from_ long : Int) (main : Bool) (w : World) (hN : N = szN n id) (hn : n ≤ 2147483647) (hid : id.size ≤ 2147483647) (hf : -9223372036854775808 ≤ from_ ∧ from_ ≤ 9223372036854775807) (hl : -9223372036854775808 ≤ long ∧ long ≤ 9223372036854775807)
    (hnc : n ≤ c) (hr : ReadsInt w .u8 A n q) (hq8 : B8 q) (hK4 : Wd w 43 4 Kt) (hE : Er w ae au) :
    Calls Tryd.prog 21 #[.slice A n c, .bool false, .string id, .int .i64 from_, .int .i64 long, .bool main] w fun e w' => ∃ G, w.heap.size ≤ G ∧ e = .returned (.slice (some ⟨G, 0, none⟩) N N) ∧ St w' G N (hdr n id from_ long main ++ pagesF Kt q ((n + 4095) / 4096)) ∧ Below w.heap.size w w' := by
  have hsz := size_is n id (by omega) hid
  rw [← hN] at hsz
  have hNb : N ≤ 281474976710656 := by unfold szN at hN; omega
  have hmk := print_make (P := Tryd.prog) 22 5 .u8 1 Tryd.underlying22 info5 (by decide) N (by omega)
  have HSZ := Aside0.mk hsz
  have HN := Aside0.mk hN
  have HF := Aside0.mk hf
  have HL := Aside0.mk hl
  have HR := Aside0.mk hr
  have HQ8 := Aside0.mk hq8
  have HK4 := Aside0.mk hK4
  have HE := Aside0.mk hE
  clear hsz hN hf hl hr hq8 hK4 hE
  go_enter Tryd.func21, Tryd.ntmps21
  go_wp2_with fail
  (with_reducible refine (codesign_Size.calls _ _ _ _ HSZ.out).mono ?_)
  rintro e w1 ⟨rfl, hd⟩
  have HD := Aside0.mk hd.below
  clear hd
  have hz1 : (w1.alloc (.cells (madeCells #[.int .u8 0] N) 5)).heap.size = w1.heap.size + 1 := by simp
  have HZ1 := Aside0.mk hz1
  clear hz1
  go_wp2_with fail
  (with_reducible refine (new_reader A n c _).mono ?_)
  rintro e w2 ⟨bb, hbb, rfl, hbk, hb2⟩
  have HBB := Aside0.mk hbb
  have HBK := Aside0.mk hbk
  have HB2 := Aside0.mk hb2
  have hsG : St w2 w1.heap.size N [] := made_st2 w1 w2 N _ rfl (by rw [← HZ1.out]; exact hb2)
  have hbel : Below w.heap.size w w2 := (below_alloc HD.out _).trans (hb2.mono (by rw [HZ1.out]; exact Nat.le_succ_of_le HD.out.size))
  have hbG : bb = w1.heap.size + 1 := by rw [hbb, HZ1.out]
  have hws := HD.out.size
  obtain ⟨b, o, hA, hbl, hcl⟩ : ∃ b o, (0 < n → A = some ⟨b, o, none⟩) ∧ (0 < n → b < w.heap.size) ∧ ∀ i, i < n → w.cell? ⟨b, o + i, none⟩ = some (.int .u8 (q.getD i 0)) := by
    by_cases h0 : 0 < n
    · obtain ⟨b, o, h1, h2, h3⟩ := reads_at HR.out h0
      exact ⟨b, o, fun _ => h1, fun _ => h2, h3⟩
    · exact ⟨0, 0, fun h => absurd h h0, fun h => absurd h h0, fun i hi => absurd hi (by omega)⟩
  have hE2 : Er w2 ae au := HE.out.below hbel
  have h0l := cell_lt HE.out.c0
  have h1l := cell_lt HE.out.c1
  have h4l := blk_lt HK4.out.blk
  have hel : ae.block < w.heap.size := by obtain ⟨_, _, h⟩ := HE.out.be; exact blk_lt h
  have hul : au.block < w.heap.size := by obtain ⟨_, _, h⟩ := HE.out.bu; exact blk_lt h
  (have HC := Aside0.mk (sign_rd w1.heap.size N bb b o n c id from_ long main (-1) q Kt ae au w2 hsG HN.out hn hid HF.out HL.out hnc (fun h0 => by rw [hA h0] at hbk; exact hbk) HR.out.1 HQ8.out (fun i hi => by rw [hbel.cell (p := ⟨b, o + i, none⟩) (hbl (by omega))]; exact hcl i hi) ⟨HK4.out.len, (hbel.block 4 (blk_lt HK4.out.blk)).trans HK4.out.blk⟩ hE2 w.heap.size hbel.size hws (by omega) (by omega) h0l h1l h4l hel hul hbl))
  clear hE2 h0l h1l h4l hel hul
  have HBEL := Aside0.mk hbel
  have HBG := Aside0.mk hbG
  clear hbb hbk hb2 hsG hbel hbG hws hA hbl hcl
  go_wp2_with fail
  (with_reducible refine HC.out.mono ?_)
  rintro e w3 ⟨rfl, hs, ht⟩
  have HS := Aside0.mk hs
  have HT := Aside0.mk ht
  clear hs ht HC
  go_wp2
  go_ret
  exact ⟨w1.heap.size, HD.out.size, rfl, HS.out, Two.new HBEL.out HT.out HD.out.size (by have := HBG.out; have := HD.out.size; omega)⟩

set_option maxHeartbeats 8000000 in
theorem impl_sign_rd (N n c : Nat) (A : Option Addr) (q Kt : List Int) (ae au : Addr) (id : ByteArray) (from_ long : Int) (main : Bool) (w : World) (hN : N = szN n id) (hn : n ≤ 2147483647) (hid : id.size ≤ 2147483647) (hf : -9223372036854775808 ≤ from_ ∧ from_ ≤ 9223372036854775807) (hl : -9223372036854775808 ≤ long ∧ long ≤ 9223372036854775807)
    (hnc : n ≤ c) (hr : ReadsInt w .u8 A n q) (hq8 : B8 q) (hK4 : Wd w 43 4 Kt) (hE : Er w ae au) :
    Calls Tryd.prog 12 #[.slice A n c, .bool false, .string id, .int .i64 from_, .int .i64 long, .bool main] w fun e w' => ∃ G, w.heap.size ≤ G ∧ e = .returned (.slice (some ⟨G, 0, none⟩) N N) ∧ St w' G N (hdr n id from_ long main ++ pagesF Kt q ((n + 4095) / 4096)) ∧ Below w.heap.size w w' := by
  have HC := Aside0.mk (zz_sign_rd N n c A q Kt ae au id from_ long main w hN hn hid hf hl hnc hr hq8 hK4 hE)
  clear hN hf hl hr hq8 hK4 hE
  go_enter Tryd.func12, Tryd.ntmps12
  go_wp2_with fail
  (with_reducible refine HC.out.mono ?_)
  rintro e w1 ⟨G, hG, rfl, hs, hb⟩
  have HS := Aside0.mk hs
  have HB := Aside0.mk hb
  have HG := Aside0.mk hG
  clear hs hb hG HC
  go_wp2
  go_ret
  exact ⟨G, HG.out, rfl, HS.out, HB.out⟩


end Go.Proofs.YtodofpjdcongnaaDoor.Sign

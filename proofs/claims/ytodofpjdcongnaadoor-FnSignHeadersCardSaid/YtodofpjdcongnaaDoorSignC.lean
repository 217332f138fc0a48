/- codesign.Sign up to its loop, and without code to hash. -/
import Derived.Test.YtodofpjdcongnaaDoorHdr
import Derived.LoopN
import Derived.Test.YtodofpjdcongnaaDoorSignD
namespace Go.Proofs.YtodofpjdcongnaaDoor.Sign
open Go.RowKit Go.Proofs.YtodofpjdcongnaaDoorW.PrintWords Go.Proofs.YtodofpjdcongnaaDoor.PFnSignHeaders

set_option maxHeartbeats 8000000 in
set_option maxRecDepth 100000 in
theorem sign_empty (G N bb n : Nat) (id : ByteArray) (from_ long : Int) (main : Bool) (w : World) (h : St w G N []) (hbf : w.heap[bb]? = some (.cells #[.slice none 0 0, .int .i64 0, .int .i8 0] 51 (0, 0))) (hN : N = szN n id) (hn : n ≤ 1048576) (hid : id.size ≤ 2147483647) (hf : -9223372036854775808 ≤ from_ ∧ from_ ≤ 9223372036854775807) (hl : -9223372036854775808 ≤ long ∧ long ≤ 9223372036854775807) :
    Calls Tryd.prog 27 #[.slice (some ⟨G, 0, none⟩) N N, .iface 47 (.pointer (some ⟨bb, 0, none⟩)), .string id, .int .i64 (n : Int), .int .i64 from_, .int .i64 long, .bool main] w fun e w' => e = .returned (.tuple #[]) ∧ St w' G N (hdr n id from_ long main) ∧ Two w w' G bb := by
  have hsz := size_is n id (by omega) hid
  rw [← hN] at hsz
  have hk : (n + 4095) / 4096 ≤ 256 := by omega
  have hNb : 109 + id.size ≤ N ∧ N ≤ 109 + id.size + 256 * 32 := by unfold szN at hN; omega
  have HSZ := Aside0.mk hsz
  have HN := Aside0.mk hN
  have H := Aside0.mk h
  have HBF := Aside0.mk hbf
  obtain ⟨hNb1, hNb2⟩ := hNb
  obtain ⟨hf1, hf2⟩ := hf
  obtain ⟨hl1, hl2⟩ := hl
  have hu61 := Tryd.underlying61
  have hu63 := Tryd.underlying63
  have hu65 := Tryd.underlying65
  clear hsz hN h hk hbf
  go_enter Tryd.func27, Tryd.ntmps27
  go_wp2_with fail
  (with_reducible refine (codesign_Size.calls _ _ _ _ HSZ.out).mono ?_)
  rintro e w1 ⟨rfl, hd⟩
  have HD := Aside0.mk hd.below
  clear hd
  have hz1 : (w1.alloc (.cells #[.int .u32 4208856256, .int .u32 (N : Int), .int .u32 1] 61)).heap.size = w1.heap.size + 1 := by simp
  have hz2 : ((w1.alloc (.cells #[.int .u32 4208856256, .int .u32 (N : Int), .int .u32 1] 61)).alloc (.cells #[.int .u32 0, .int .u32 20] 63)).heap.size = w1.heap.size + 1 + 1 := by simp
  have HZ1 := Aside0.mk hz1
  have HZ2 := Aside0.mk hz2
  clear hz1 hz2
  go_wp2_with ((with_reducible refine gate_store (t := 65) (p := 20) rfl ?_); refine stop_here ?_)
  unfold Stopped
  refine store_all rfl rfl 65 (.tmp 20) (.tmp 62) rfl (w1.heap.size + 1 + 1) #[.int .u32 0, .int .u32 0, .int .u32 0, .int .u32 0, .int .u32 0, .int .u32 0, .int .u32 0, .int .u32 0, .int .u32 0, .int .u8 0, .int .u8 0, .int .u8 0, .int .u8 0, .int .u32 0, .int .u32 0, .int .u32 0, .int .u32 0, .int .u64 0, .int .u64 0, .int .u64 0, .int .u64 0] 65 _ [.int .u32 4208856066, .int .u32 ((N : Int) - 20), .int .u32 132096, .int .u32 131074, .int .u32 (88 + ((id.size : Int) + 1)), .int .u32 88, .int .u32 0, .int .u32 (((n : Int) + 4096 - 1) / 4096), .int .u32 (n : Int), .int .u8 32, .int .u8 2, .int .u8 0, .int .u8 12, .int .u32 0, .int .u32 0, .int .u32 0, .int .u32 0, .int .u64 0, .int .u64 (IntKind.u64.wrap from_), .int .u64 (IntKind.u64.wrap long), .int .u64 0] rfl rfl rfl (by kernel_rfl) (by simp [Value.oneCell']) (by rw [← HZ2.out]; exact blk_new _ _) rfl ?_
  intro w2 hb2 hg2
  have hgl : G < w.heap.size := blk_lt H.out.2
  have hbl : bb < w.heap.size := blk_lt HBF.out
  have hw1 := HD.out.size
  have hS1 : St w1 G N [] := ⟨H.out.1, (HD.out.block G hgl).trans H.out.2⟩
  have hF1 : w1.heap[bb]? = some (.cells #[.slice none 0 0, .int .i64 0, .int .i8 0] 51 (0, 0)) := (HD.out.block bb hbl).trans HBF.out
  have hS2 : St w2 G N [] := ((((hS1.grown (World.grownBy_alloc _ _ none) (by simp)).grown (World.grownBy_alloc _ _ none) (by simp)).grown (World.grownBy_alloc _ _ none) (by simp)).grown hg2 (by intro e; injection e with e; omega))
  have hF2 := blk_grown (blk_grown (blk_grown (blk_grown hF1 (World.grownBy_alloc _ (.cells #[.int .u32 4208856256, .int .u32 (N : Int), .int .u32 1] 61) none) (by simp)) (World.grownBy_alloc _ (.cells #[.int .u32 0, .int .u32 20] 63) none) (by simp)) (World.grownBy_alloc _ _ none) (by simp)) hg2 (by intro e; injection e with e; omega)
  have hb0 := blk_grown (blk_grown (blk_grown (blk_new w1 (.cells #[.int .u32 4208856256, .int .u32 (N : Int), .int .u32 1] 61)) (World.grownBy_alloc _ (.cells #[.int .u32 0, .int .u32 20] 63) none) (by simp)) (World.grownBy_alloc _ _ none) (by simp)) hg2 (by intro e; injection e with e; omega)
  have hb1' := blk_new (w1.alloc (.cells #[.int .u32 4208856256, .int .u32 (N : Int), .int .u32 1] 61)) (.cells #[.int .u32 0, .int .u32 20] 63)
  rw [HZ1.out] at hb1'
  have hb1 := blk_grown (blk_grown hb1' (World.grownBy_alloc _ _ none) (by simp)) hg2 (by intro e; injection e with e; omega)
  have hk2 : ∀ k, k < w.heap.size → k ≠ G → k ≠ bb → w2.heap[k]? = w.heap[k]? := fun k hk _ _ => by
    rw [hg2.block k (by simp; omega) (by intro e; injection e with e; omega)]
    rw [heap_alloc_old _ _ (by simp; omega), heap_alloc_old _ _ (by simp; omega), heap_alloc_old _ _ (by omega)]
    exact HD.out.block k hk
  have HS2 := Aside0.mk hS2
  have HF2 := Aside0.mk hF2
  have HSB := Aside0.mk hb0
  have HBL := Aside0.mk hb1
  have HK2 := Aside0.mk hk2
  have ht2 : Two w w2 G bb := ⟨hg2.os.trans HD.out.os, hg2.tape.trans HD.out.tape, hg2.output.trans HD.out.output, by have := hg2.size; simp at this; omega, hk2⟩
  have HT2 := Aside0.mk ht2
  have hGb : some bb ≠ some G := by
    intro e
    injection e with e
    have h1 := H.out.2
    rw [← e, HBF.out] at h1
    injection h1 with h1
    injection h1 with h1 h2 h3
    exact absurd h2 (by decide)
  have HGB := Aside0.mk hGb
  have HCD := Aside0.mk hb2
  have HR0 : Aside0 (Rest G N 0 (.slice (some ⟨G, 0, none⟩) N N)) := Aside0.mk ⟨0, .inl rfl, rfl⟩
  clear hgl hbl hw1 hS1 hF1 hS2 hF2 hb0 hb1' hb1 hk2 hb2 hg2 ht2 hGb
  have hkb := fun (q : ByteArray) (W : World) => print_bytes (P := Tryd.prog) 9 22 5 Tryd.underlying9 Tryd.underlying22 Tryd.underlying5 q W
  have hsid : (id ++ (⟨#[0]⟩ : ByteArray)).size = id.size + 1 := by rw [ByteArray.size_append]; rfl
  have HSID := Aside0.mk hsid
  clear hsid
  cases main
  case false =>
    obtain ⟨m20, hm20⟩ : ∃ m : Int, m = 0 := ⟨_, rfl⟩
    have HCX : Aside0 (w2.heap[w1.heap.size + 1 + 1]? = some (.cells #[.int .u32 4208856066, .int .u32 ((N : Int) - 20), .int .u32 132096, .int .u32 131074, .int .u32 (88 + ((id.size : Int) + 1)), .int .u32 88, .int .u32 0, .int .u32 (((n : Int) + 4096 - 1) / 4096), .int .u32 (n : Int), .int .u8 32, .int .u8 2, .int .u8 0, .int .u8 12, .int .u32 0, .int .u32 0, .int .u32 0, .int .u32 0, .int .u64 0, .int .u64 (IntKind.u64.wrap from_), .int .u64 (IntKind.u64.wrap long), .int .u64 m20] 65 (0, 0))) := Aside0.mk (by rw [hm20]; exact HCD.out)
    have hmb : 0 ≤ m20 ∧ m20 < 18446744073709551616 := by omega
    have HMB := Aside0.mk hmb
    have HME : Aside0 (m20 = if false = true then 1 else 0) := Aside0.mk (by rw [hm20]; rfl)
    clear hm20 hmb
    go_wp2_with fail
    (with_reducible refine (sb_put G N 0 w1.heap.size [] _ _ _ _ _ HS2.out rfl (by omega) HSB.out (by omega) (by omega) (by omega) HR0.out).mono ?_)
    rintro e w3 ⟨⟨v3, rfl, r3⟩, h3, g3⟩
    rw [List.nil_append] at h3
    have HR3 : Aside0 (Rest G N 12 v3) := Aside0.mk r3
    have HS3 := Aside0.mk h3
    have HBL3 := Aside0.mk (blk_grown HBL.out g3 (by intro e; injection e with e; have := blk_lt H.out.2; have := HD.out.size; omega))
    have HCX3 := Aside0.mk (blk_grown HCX.out g3 (by intro e; injection e with e; have := blk_lt H.out.2; have := HD.out.size; omega))
    have HG3 := Aside0.mk g3
    obtain ⟨o3, ho3, rfl⟩ := r3
    clear h3 g3 ho3
    go_wp2_with fail
    (with_reducible refine (blob_put G N 12 (w1.heap.size + 1) _ _ _ _ _ HS3.out rfl (by omega) HBL3.out (by omega) (by omega) HR3.out).mono ?_)
    rintro e w4 ⟨⟨v4, rfl, r4⟩, h4, g4⟩
    have HR4 : Aside0 (Rest G N 20 v4) := Aside0.mk r4
    have HS4 := Aside0.mk h4
    have HCX4 := Aside0.mk (blk_grown HCX3.out g4 (by intro e; injection e with e; have := blk_lt H.out.2; have := HD.out.size; omega))
    have HG4 := Aside0.mk (HG3.out.trans g4)
    obtain ⟨o4, ho4, rfl⟩ := r4
    clear h4 g4 ho4
    go_wp2_with fail
    (with_reducible refine (cd_put G N 20 (w1.heap.size + 1 + 1) _ _ _ _ _ _ _ _ _ _ _ _ _ _ _ _ _ _ _ _ _ _ _ _ HS4.out rfl (by omega) HCX4.out (by omega) (by omega) (by omega) (by omega) (by omega) (by omega) (by omega) (by omega) (by omega) (by omega) (by omega) (by omega) (by omega) (by omega) (wrap_b from_) (wrap_b long) HMB.out HR4.out).mono ?_)
    rintro e w5 ⟨⟨v5, rfl, r5⟩, h5, g5⟩
    have HR5 : Aside0 (Rest G N 108 v5) := Aside0.mk r5
    have HS5 := Aside0.mk h5
    have HG5 := Aside0.mk (HG4.out.trans g5)
    obtain ⟨o5, ho5, rfl⟩ := r5
    clear h5 g5 ho5
    go_wp2_with fail
    have hbw := bytes_below (Below.refl w5.heap.size w5) (Nat.le_refl _) 5 (id ++ ⟨#[0]⟩)
    have HB6 := Aside0.mk hbw
    have HS6 := Aside0.mk (HS5.out.below hbw)
    have hrd := bytes_reads w5 5 (id ++ ⟨#[0]⟩) (by rw [HSID.out]; omega)
    rw [HSID.out] at hrd
    have HRD := Aside0.mk hrd
    have hr5' := HR5.out
    clear hbw hrd
    (with_reducible refine (puts G N 108 (id.size + 1) _ _ (bytesOf (id ++ ⟨#[0]⟩)) _ _ _ HS6.out rfl (by omega) (by omega) (by omega) hr5' HRD.out).mono ?_)
    rintro e w7 ⟨⟨v7, rfl, r7⟩, h7, g7⟩
    have HR7 : Aside0 (Rest G N (109 + id.size) v7) := Aside0.mk (by rw [show 109 + id.size = 108 + (id.size + 1) by omega]; exact r7)
    have HS7 := Aside0.mk h7
    have HG7 := Aside0.mk g7
    obtain ⟨o7, ho7, rfl⟩ := r7
    clear h7 g7 ho7 hr5'
    have hta := ta_buf (.pointer (some ⟨bb, 0, none⟩))
    go_wp2_with ((with_reducible refine gate_dst (N := 24) rfl ?_); refine alloc_any rfl 24 rfl 68 rfl zero68 ?_; intro g8 hg8 w8 hb8; have HB8 := Aside0.mk hb8; clear hb8 hg8)
    clear hta
    have hg28 := ((HG5.out.trans (grown_of_below HB6.out _)).trans HG7.out).trans (grown_of_below HB8.out _)
    have hf8 := blk_grown HF2.out hg28 HGB.out
    have HF8 := Aside0.mk hf8
    have HT8 := Aside0.mk (HT2.out.grown hg28 (.inl rfl))
    have hs8 := HS7.out.below HB8.out
    have hs8' : St w8 G N (hdr n id from_ long false) := by
      rw [HME.out, HN.out] at hs8
      rw [HN.out]
      exact hs8
    have HS8 := Aside0.mk hs8'
    clear hg28 hf8 hs8 hs8' HS2 HF2 HSB HBL HK2 HCD HR0 HSID HCX HMB HME HS3 HBL3 HCX3 HG3 HR3 HS4 HCX4 HG4 HR4 HS5 HG5 HR5 HB6 HS6 HRD HS7 HG7 HR7 HB8 hkb HZ1 HZ2
    refine wp_loop_rounds 1 ?_
    rw [rounds_succ]
    by_cases hn0 : 0 < n
    · have d0 : decide ((0 : Int) < (n : Int)) = true := decide_eq_true (by omega)
      go_wp2_with fail
      (with_reducible refine (next_empty bb _ _ HF8.out).mono ?_)
      rintro e w9 ⟨rfl, hg9⟩
      have HG9 := Aside0.mk hg9
      clear hg9
      go_wp2
      go_end0
      exact ⟨rfl, HS8.out.grown HG9.out (fun e => HGB.out e.symm), HT8.out.grown HG9.out (.inr (.inl rfl))⟩
    · obtain rfl : n = 0 := by omega
      have d0 : decide ((0 : Int) < (0 : Int)) = false := rfl
      go_wp2
      go_end0
      exact ⟨rfl, HS8.out, HT8.out⟩
  case true =>
    have hc20 : w2.cell? ⟨w1.heap.size + 1 + 1, 20, none⟩ = some (.int .u64 0) := (blk_cell HCD.out 20).trans rfl
    have hf20 := blk_frozen HCD.out 20
    go_wp2_with fail
    obtain ⟨wm, hwm⟩ : ∃ wm, wm = w2.setCell ⟨w1.heap.size + 1 + 1, 20, none⟩ (.int .u64 1) := ⟨_, rfl⟩
    have hgm : w2.grownBy wm (some (w1.heap.size + 1 + 1)) := by rw [hwm]; exact grown_put _ _ _ _
    obtain ⟨m20, hm20⟩ : ∃ m : Int, m = 1 := ⟨_, rfl⟩
    have hbm : wm.heap[w1.heap.size + 1 + 1]? = some (.cells #[.int .u32 4208856066, .int .u32 ((N : Int) - 20), .int .u32 132096, .int .u32 131074, .int .u32 (88 + ((id.size : Int) + 1)), .int .u32 88, .int .u32 0, .int .u32 (((n : Int) + 4096 - 1) / 4096), .int .u32 (n : Int), .int .u8 32, .int .u8 2, .int .u8 0, .int .u8 12, .int .u32 0, .int .u32 0, .int .u32 0, .int .u32 0, .int .u64 0, .int .u64 (IntKind.u64.wrap from_), .int .u64 (IntKind.u64.wrap long), .int .u64 m20] 65 (0, 0)) := by
      rw [hwm, hm20]
      exact blk_put HCD.out 20 _ rfl
    rw [← hwm]
    have HCX := Aside0.mk hbm
    have hmb : 0 ≤ m20 ∧ m20 < 18446744073709551616 := by omega
    have HMB := Aside0.mk hmb
    have HME : Aside0 (m20 = if true = true then 1 else 0) := Aside0.mk (by rw [hm20]; rfl)
    have hgl : G < w.heap.size := blk_lt H.out.2
    have hbl : bb < w.heap.size := blk_lt HBF.out
    have hw1 := HD.out.size
    have n1_ := Aside0.mk (HS2.out.grown hgm (by intro e; injection e with e; omega))
    have n2_ := Aside0.mk (blk_grown HF2.out hgm (by intro e; injection e with e; omega))
    have n3_ := Aside0.mk (blk_grown HSB.out hgm (by intro e; injection e with e; omega))
    have n4_ := Aside0.mk (blk_grown HBL.out hgm (by intro e; injection e with e; omega))
    have n5_ := Aside0.mk (HT2.out.grown hgm (.inr (.inr (by omega))))
    clear HS2 HF2 HSB HBL HT2 HK2
    have HS2 := n1_
    have HF2 := n2_
    have HSB := n3_
    have HBL := n4_
    have HT2 := n5_
    clear n1_ n2_ n3_ n4_ n5_ hwm hgm hbm hm20 hmb hgl hbl hw1 hc20 hf20
    (with_reducible refine (sb_put G N 0 w1.heap.size [] _ _ _ _ _ HS2.out rfl (by omega) HSB.out (by omega) (by omega) (by omega) HR0.out).mono ?_)
    rintro e w3 ⟨⟨v3, rfl, r3⟩, h3, g3⟩
    rw [List.nil_append] at h3
    have HR3 : Aside0 (Rest G N 12 v3) := Aside0.mk r3
    have HS3 := Aside0.mk h3
    have HBL3 := Aside0.mk (blk_grown HBL.out g3 (by intro e; injection e with e; have := blk_lt H.out.2; have := HD.out.size; omega))
    have HCX3 := Aside0.mk (blk_grown HCX.out g3 (by intro e; injection e with e; have := blk_lt H.out.2; have := HD.out.size; omega))
    have HG3 := Aside0.mk g3
    obtain ⟨o3, ho3, rfl⟩ := r3
    clear h3 g3 ho3
    go_wp2_with fail
    (with_reducible refine (blob_put G N 12 (w1.heap.size + 1) _ _ _ _ _ HS3.out rfl (by omega) HBL3.out (by omega) (by omega) HR3.out).mono ?_)
    rintro e w4 ⟨⟨v4, rfl, r4⟩, h4, g4⟩
    have HR4 : Aside0 (Rest G N 20 v4) := Aside0.mk r4
    have HS4 := Aside0.mk h4
    have HCX4 := Aside0.mk (blk_grown HCX3.out g4 (by intro e; injection e with e; have := blk_lt H.out.2; have := HD.out.size; omega))
    have HG4 := Aside0.mk (HG3.out.trans g4)
    obtain ⟨o4, ho4, rfl⟩ := r4
    clear h4 g4 ho4
    go_wp2_with fail
    (with_reducible refine (cd_put G N 20 (w1.heap.size + 1 + 1) _ _ _ _ _ _ _ _ _ _ _ _ _ _ _ _ _ _ _ _ _ _ _ _ HS4.out rfl (by omega) HCX4.out (by omega) (by omega) (by omega) (by omega) (by omega) (by omega) (by omega) (by omega) (by omega) (by omega) (by omega) (by omega) (by omega) (by omega) (wrap_b from_) (wrap_b long) HMB.out HR4.out).mono ?_)
    rintro e w5 ⟨⟨v5, rfl, r5⟩, h5, g5⟩
    have HR5 : Aside0 (Rest G N 108 v5) := Aside0.mk r5
    have HS5 := Aside0.mk h5
    have HG5 := Aside0.mk (HG4.out.trans g5)
    obtain ⟨o5, ho5, rfl⟩ := r5
    clear h5 g5 ho5
    go_wp2_with fail
    have hbw := bytes_below (Below.refl w5.heap.size w5) (Nat.le_refl _) 5 (id ++ ⟨#[0]⟩)
    have HB6 := Aside0.mk hbw
    have HS6 := Aside0.mk (HS5.out.below hbw)
    have hrd := bytes_reads w5 5 (id ++ ⟨#[0]⟩) (by rw [HSID.out]; omega)
    rw [HSID.out] at hrd
    have HRD := Aside0.mk hrd
    have hr5' := HR5.out
    clear hbw hrd
    (with_reducible refine (puts G N 108 (id.size + 1) _ _ (bytesOf (id ++ ⟨#[0]⟩)) _ _ _ HS6.out rfl (by omega) (by omega) (by omega) hr5' HRD.out).mono ?_)
    rintro e w7 ⟨⟨v7, rfl, r7⟩, h7, g7⟩
    have HR7 : Aside0 (Rest G N (109 + id.size) v7) := Aside0.mk (by rw [show 109 + id.size = 108 + (id.size + 1) by omega]; exact r7)
    have HS7 := Aside0.mk h7
    have HG7 := Aside0.mk g7
    obtain ⟨o7, ho7, rfl⟩ := r7
    clear h7 g7 ho7 hr5'
    have hta := ta_buf (.pointer (some ⟨bb, 0, none⟩))
    go_wp2_with ((with_reducible refine gate_dst (N := 24) rfl ?_); refine alloc_any rfl 24 rfl 68 rfl zero68 ?_; intro g8 hg8 w8 hb8; have HB8 := Aside0.mk hb8; clear hb8 hg8)
    clear hta
    have hg28 := ((HG5.out.trans (grown_of_below HB6.out _)).trans HG7.out).trans (grown_of_below HB8.out _)
    have hf8 := blk_grown HF2.out hg28 HGB.out
    have HF8 := Aside0.mk hf8
    have HT8 := Aside0.mk (HT2.out.grown hg28 (.inl rfl))
    have hs8 := HS7.out.below HB8.out
    have hs8' : St w8 G N (hdr n id from_ long true) := by
      rw [HME.out, HN.out] at hs8
      rw [HN.out]
      exact hs8
    have HS8 := Aside0.mk hs8'
    clear hg28 hf8 hs8 hs8' HS2 HF2 HSB HBL HCD HR0 HSID HCX HMB HME HS3 HBL3 HCX3 HG3 HR3 HS4 HCX4 HG4 HR4 HS5 HG5 HR5 HB6 HS6 HRD HS7 HG7 HR7 HB8 hkb HZ1 HZ2
    refine wp_loop_rounds 1 ?_
    rw [rounds_succ]
    by_cases hn0 : 0 < n
    · have d0 : decide ((0 : Int) < (n : Int)) = true := decide_eq_true (by omega)
      go_wp2_with fail
      (with_reducible refine (next_empty bb _ _ HF8.out).mono ?_)
      rintro e w9 ⟨rfl, hg9⟩
      have HG9 := Aside0.mk hg9
      clear hg9
      go_wp2
      go_end0
      exact ⟨rfl, HS8.out.grown HG9.out (fun e => HGB.out e.symm), HT8.out.grown HG9.out (.inr (.inl rfl))⟩
    · obtain rfl : n = 0 := by omega
      have d0 : decide ((0 : Int) < (0 : Int)) = false := rfl
      go_wp2
      go_end0
      exact ⟨rfl, HS8.out, HT8.out⟩

end Go.Proofs.YtodofpjdcongnaaDoor.Sign

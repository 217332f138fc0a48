/- codesign.ZZHeaders and impl.Headers: the head of a signature, then noughts. -/
import Derived.Test.YtodofpjdcongnaaDoorSignC
namespace Go.Proofs.YtodofpjdcongnaaDoor.Sign
open Go.RowKit Go.Proofs.YtodofpjdcongnaaDoorW.PrintWords Go.Proofs.YtodofpjdcongnaaDoor.PFnSignHeaders

theorem made_st (W W1 : World) (N G : Nat) (hG : W.heap.size = G) (hb : Below (G + 1) (W.alloc (.cells (madeCells #[.int .u8 0] N) 5)) W1) : St W1 G N [] := by
  refine ⟨Nat.zero_le _, ?_⟩
  rw [hb.block G (Nat.lt_succ_self G), ← hG, blk_new]
  congr 2
  apply Array.ext'
  apply List.ext_getElem
  · simp [madeCells, nums]
  · intro i h1 h2
    simp only [madeCells, nums, Array.toList_map, List.getElem_map, Nat.mod_one, List.size_toArray, List.length_singleton, List.nil_append, List.getElem_replicate]
    rfl

set_option maxHeartbeats 8000000 in
set_option maxRecDepth 100000 in
theorem zz_headers (N n : Nat) (id : ByteArray) (from_ long : Int) (main : Bool) (w : World) (hN : N = szN n id) (hn : n ≤ 1048576) (hid : id.size ≤ 2147483647) (hf : -9223372036854775808 ≤ from_ ∧ from_ ≤ 9223372036854775807) (hl : -9223372036854775808 ≤ long ∧ long ≤ 9223372036854775807) :
    Calls Tryd.prog 18 #[.string id, .int .i64 (n : Int), .int .i64 from_, .int .i64 long, .bool main] w fun e w' => ∃ G, w.heap.size ≤ G ∧ e = .returned (.slice (some ⟨G, 0, none⟩) N N) ∧ St w' G N (hdr n id from_ long main) ∧ Below w.heap.size w w' := by
  have hsz := size_is n id (by omega) hid
  rw [← hN] at hsz
  have hNb : N ≤ 281474976710656 := by unfold szN at hN; omega
  have hmk := print_make (P := Tryd.prog) 22 5 .u8 1 Tryd.underlying22 info5 (by decide) N (by omega)
  have HSZ := Aside0.mk hsz
  have HN := Aside0.mk hN
  have HF := Aside0.mk hf
  have HL := Aside0.mk hl
  clear hsz hN hf hl
  go_enter Tryd.func18, Tryd.ntmps18
  go_wp2_with fail
  (with_reducible refine (codesign_Size.calls _ _ _ _ HSZ.out).mono ?_)
  rintro e w1 ⟨rfl, hd⟩
  have HD := Aside0.mk hd.below
  clear hd
  have hz1 : (w1.alloc (.cells (madeCells #[.int .u8 0] N) 5)).heap.size = w1.heap.size + 1 := by simp
  have HZ1 := Aside0.mk hz1
  clear hz1
  go_wp2_with fail
  (with_reducible refine (sign_empty w1.heap.size N (w1.heap.size + 1) n id from_ long main _ ?s1 ?s2 HN.out hn hid HF.out HL.out).mono ?_)
  case s1 => exact made_st w1 _ N _ rfl ((Below.refl _ _).alloc (by rw [HZ1.out]; exact Nat.le_refl _) _)
  case s2 =>
    rw [← HZ1.out]
    exact blk_new _ _
  rintro e w2 ⟨rfl, hs, ht⟩
  have HS := Aside0.mk hs
  have HT := Aside0.mk ht
  clear hs ht
  go_wp2
  go_ret
  exact ⟨w1.heap.size, HD.out.size, rfl, HS.out, Two.new (below_alloc (below_alloc HD.out _) _) HT.out HD.out.size (Nat.le_succ_of_le HD.out.size)⟩

set_option maxHeartbeats 8000000 in
set_option maxRecDepth 100000 in
theorem heads (N n : Nat) (id : ByteArray) (from_ long : Int) (main : Bool) (w : World) (hN : N = szN n id) (hn : n ≤ 1048576) (hid : id.size ≤ 2147483647) (hf : -9223372036854775808 ≤ from_ ∧ from_ ≤ 9223372036854775807) (hl : -9223372036854775808 ≤ long ∧ long ≤ 9223372036854775807) :
    Calls Tryd.prog 8 #[.string id, .int .i64 (n : Int), .int .i64 from_, .int .i64 long, .bool main] w fun e w' => ∃ G, w.heap.size ≤ G ∧ e = .returned (.slice (some ⟨G, 0, none⟩) N N) ∧ St w' G N (hdr n id from_ long main) ∧ Below w.heap.size w w' := by
  have HN := Aside0.mk hN
  have HF := Aside0.mk hf
  have HL := Aside0.mk hl
  clear hN hf hl
  go_enter Tryd.func8, Tryd.ntmps8
  go_wp2_with fail
  (with_reducible refine (zz_headers N n id from_ long main _ HN.out hn hid HF.out HL.out).mono ?_)
  rintro e w1 ⟨G, hG, rfl, hs, hb⟩
  have HS := Aside0.mk hs
  have HB := Aside0.mk hb
  have HG := Aside0.mk hG
  clear hs hb hG
  go_wp2
  go_ret
  exact ⟨G, HG.out, rfl, HS.out, HB.out⟩
end Go.Proofs.YtodofpjdcongnaaDoor.Sign

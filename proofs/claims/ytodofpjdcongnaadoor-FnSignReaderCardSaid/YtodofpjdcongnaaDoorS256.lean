/- crypto/sha256.Sum256. -/
import Derived.Test.YtodofpjdcongnaaDoorSum
import Derived.Test.YtodofpjdcongnaaDoorWri
import Derived.Deep.RegionWith
import Derived.StillTailTactics
namespace Go.Proofs.YtodofpjdcongnaaDoor.Sign
open Go.RowKit Go.Proofs.YtodofpjdcongnaaDoorW.PrintWords

theorem below_grown {B r : Nat} {w0 w w1 : World} (h : Below B w0 w) (k : w.grownBy w1 (some r)) (hr : B ≤ r) (hB : B ≤ w0.heap.size := by exact Nat.le_refl _) : Below B w0 w1 :=
  ⟨k.os.trans h.os, k.tape.trans h.tape, k.output.trans h.output, Nat.le_trans h.size k.size, fun i hi => (k.block i (Nat.lt_of_lt_of_le hi (Nat.le_trans hB h.size)) (fun e => by have e : i = r := Option.some.inj e; omega)).trans (h.block i hi)⟩

/-- the SHA-256 of q over the table K -/
def sha (K q : List Int) : List Int :=
  outF (sumF K (blockF K q (q.length / 64) h0s) (q.drop (64 * (q.length / 64)) ++ (noughts 64).drop (q.length % 64)) (q.length % 64) (padF (padT (q.length % 64)) ((q.length : Int) * 8)))
theorem sha_length (K q : List Int) : (sha K q).length = 32 := outF_length _

theorem meth_write (a : Addr) (w : World) : (method 237 95 (.pointer (some a)) "Write").run Tryd.prog w = .ok (85, .pointer (some a)) w := by kernel_rfl
theorem meth_sum (a : Addr) (w : World) : (method 237 95 (.pointer (some a)) "Sum").run Tryd.prog w = .ok (84, .pointer (some a)) w := by kernel_rfl
theorem ahead_sum (a : Addr) (w : World) : (nilAhead 237 95 (.pointer (some a)) "Sum").run Tryd.prog w = .ok (some false) w := by kernel_rfl

set_option maxHeartbeats 16000000 in
set_option maxRecDepth 100000 in
theorem sum256 (b o n c : Nat) (q K : List Int) (w : World) (hK : Wd w 43 4 K) (hn0 : 0 < n) (hn : n ≤ 4096) (hc : n ≤ c) (hcm : c ≤ 9223372036854775807) (hbl : b < w.heap.size) (hql : q.length = n) (hq8 : B8 q) (hq : ∀ j, j < n → w.cell? ⟨b, o + j, none⟩ = some (.int .u8 (q.getD j 0))) :
    Calls Tryd.prog 39 #[.slice (some ⟨b, o, none⟩) n c] w fun e w' => e = .returned (.agg (nums .u8 (sha K q)).toArray) ∧ Below w.heap.size w w' := by
  have HK := Aside0.mk hK
  have HQ := Aside0.mk hq
  have HQ8 := Aside0.mk hq8
  have HQL := Aside0.mk hql
  have HBL := Aside0.mk hbl
  clear hK hq hq8 hql hbl
  go_enter Tryd.func39, Tryd.ntmps39
  go_wp2_with ((with_reducible refine gate_dst (N := 2) rfl ?_); refine alloc_known rfl 2 rfl 74 rfl _ zero74 ?_; intro G hG w1 hb1 hB1; have HG := Aside0.mk hG; have HR1 := Aside0.mk (Row8.start hb1); have HB1 := Aside0.mk hB1; clear hG hb1 hB1)
  (with_reducible refine (sha_new2 _).mono ?_)
  rintro e w2 ⟨D, hDs, rfl, hD, hB2⟩
  have HDS := Aside0.mk hDs
  have HD := Aside0.mk hD
  have HB2 := Aside0.mk hB2
  have hDl : w.heap.size ≤ D := by have := HDS.out; have := HB1.out.size; omega
  have hK2 : Wd w2 43 4 K := ⟨HK.out.len, ((HB1.out.trans (HB2.out.mono HB1.out.size)).block 4 (blk_lt HK.out.blk)).trans HK.out.blk⟩
  have hD4 : D ≠ 4 := by have := blk_lt HK.out.blk; omega
  have hDb : D ≠ b := by have := HBL.out; omega
  have hBz := (HB1.out.trans (HB2.out.mono HB1.out.size))
  have HC := Aside0.mk (write0 D b o n c h0s (noughts 64) q K 0 w2 hD hK2 hc (by have := HBL.out; have := hBz.size; omega) HQ8.out.at hn0 hn hcm (by decide) HQL.out hDb hD4 (fun j hj => by rw [hBz.cell (p := ⟨b, o + j, none⟩) HBL.out]; exact HQ.out j hj))
  have HDL := Aside0.mk hDl
  have HBZ := Aside0.mk hBz
  have HK2 := Aside0.mk hK2
  have HD4 := Aside0.mk hD4
  clear hDs hD hB2 hDl hK2 hD4 hDb hBz
  have hm1 := meth_write ⟨D, 0, none⟩
  go_wp2_with fail
  (with_reducible refine HC.out.mono ?_)
  rintro e w3 ⟨rfl, hD3, hg3⟩
  have HD3 := Aside0.mk hD3
  have HG3 := Aside0.mk hg3
  clear hm1 hD3 hg3 HC
  go_wp2_with ((with_reducible refine gate_dst (N := 4) rfl ?_); refine alloc_known rfl 4 rfl 74 rfl _ zero74 ?_; intro S hS w4 hb4 hB4; have HS := Aside0.mk hS; have HR4 := Aside0.mk (Row8.start hb4); have HB4 := Aside0.mk hB4; clear hS hb4 hB4)
  have hm2 := meth_sum ⟨D, 0, none⟩
  have hm3 := ahead_sum ⟨D, 0, none⟩
  go_still_tail 5, (by kernel_rfl)
  change wpList _ _ _ _ _ w4.drew
  obtain ⟨w5, hw5⟩ : ∃ w5, w5 = w4.drew := ⟨_, rfl⟩
  rw [← hw5]
  have hb35 : Below w3.heap.size w3 w5 := by rw [hw5]; exact below_drew1 HB4.out
  have hD5 : Dg w5 D (blockF K q (n / 64) h0s) (q.drop (64 * (n / 64)) ++ (noughts 64).drop (n % 64)) (n % 64 : Nat) n := by
    have h := HD3.out.below hb35
    rw [Int.zero_add] at h
    exact h
  have hS5 : Row8 74 w5 S 32 [] := by rw [hw5]; exact HR4.out.drew
  have hK5 : Wd w5 43 4 K := ⟨HK.out.len, by
    have h3 := HK2.out.grown HG3.out (by intro e; exact HD4.out (Option.some.inj e).symm)
    exact (hb35.block 4 (blk_lt h3.blk)).trans h3.blk⟩
  have hh0 : W32 h0s := by
    intro x hx
    simp only [h0s, List.mem_cons, List.not_mem_nil, or_false] at hx
    omega
  have hSz : w.heap.size ≤ S := by have := HS.out; have := HG3.out.size; have := HBZ.out.size; omega
  have HSZ := Aside0.mk hSz
  have HG5 : Aside0 (Below w.heap.size w w5) := Aside0.mk ((below_grown HBZ.out HG3.out HDL.out).trans (hb35.mono (Nat.le_trans HBZ.out.size HG3.out.size)))
  have HGS : Aside0 (G ≠ S) := Aside0.mk (by have := HS.out; have := HG3.out.size; have := HB2.out.size; have := blk_lt HR1.out.2; omega)
  have HR5 : Aside0 (Row8 74 w5 G 32 []) := Aside0.mk (((HR1.out.below HB2.out).grown HG3.out (by intro e; have e : G = D := Option.some.inj e; have := HDS.out; have := blk_lt HR1.out.2; omega)).below hb35)
  obtain ⟨cs, hcs⟩ : ∃ cs : Array Value, cs = (nums .u8 (sha K q)).toArray := ⟨_, rfl⟩
  have hsz : cs.size = 32 := by rw [hcs, List.size_toArray, nums_len, sha_length]
  have hi74 : (Tryd.prog.info? 74).map (·.size) = some cs.size := by rw [hsz]; exact info74
  have h1c : ∀ q ∈ cs.toList, q.oneCell' = true := by rw [hcs]; exact one_nums _
  have HC := Aside0.mk (sum84 D S (n % 64) n _ _ K w5 hD5 hS5 hK5 rfl hn ((HQ8.out.drop _).append (B8.drop (B8.noughts 64) _)) (W32.blockF hh0 _))
  have HCS := Aside0.mk hcs
  have HCZ := Aside0.mk hsz
  have HI74 := Aside0.mk hi74
  have H1C := Aside0.mk h1c
  clear hw5 hb35 hD5 hS5 hK5 hh0 hSz hcs hsz hi74 h1c hm3
  go_wp2_with fail
  (with_reducible refine HC.out.mono ?_)
  rintro e w6 ⟨rfl, hb6, hg6⟩
  have hS6 : w6.heap[S]? = some (.cells cs 74 (0, 0)) := by
    rw [hb6, HCS.out, sha, HQL.out]
  have HS6 := Aside0.mk hS6
  have HG6 := Aside0.mk (below_grown HG5.out hg6 HSZ.out)
  have HR6 := Aside0.mk (HR5.out.grown hg6 (by intro e; exact HGS.out (Option.some.inj e)))
  clear hb6 hg6 hS6 HC hm2
  go_wp2_with (first
    | ((with_reducible refine gate_dst (N := 17) rfl ?_); refine wpList_load_row rfl 74 (.tmp 4) rfl S rfl 74 cs (0, 0) _ HS6.out Tryd.underlying74 rfl HI74.out ?_)
    | ((with_reducible refine gate_store (t := 74) (p := 2) rfl ?_); refine stop_here ?_))
  unfold Stopped
  refine store_all rfl rfl 74 (.tmp 2) (.tmp 17) rfl G _ 74 (.agg cs) cs.toList rfl rfl rfl (by rw [Array.length_toList]; exact HI74.out) H1C.out HR6.out.2 (by have h := HCZ.out; simp [nums, h]) ?_
  intro w7 hb7 hg7
  have HB7 := Aside0.mk hb7
  have HG7 := Aside0.mk hg7
  clear hb7 hg7
  go_wp2
  have hfin : w7.heap[G]? = some (.cells cs 74 (0, 0)) := by rw [HB7.out]
  refine bodyPost_ret (v := .agg cs) (results_cell_row rfl _ _ G 74 cs (0, 0) _ rfl hfin Tryd.underlying74 rfl HI74.out) rfl ⟨?_, ?_⟩
  · rw [HCS.out]
  · exact below_grown HG6.out HG7.out (Nat.le_of_eq HG.out.symm)
end Go.Proofs.YtodofpjdcongnaaDoor.Sign

/- SHA-256: (*Digest).Write into an empty digest, and into one that is filled up. -/
import Derived.Test.YtodofpjdcongnaaDoorBlk
import Derived.StillTailTactics
section
/- SHA-256's block function by its wrapper; what a copy leaves in a digest. -/
namespace Go.Proofs.YtodofpjdcongnaaDoor.Sign
open Go.RowKit Go.Proofs.YtodofpjdcongnaaDoorW.PrintWords

set_option maxHeartbeats 4000000 in
theorem blk88 (D b o m n c : Nat) (hs xs q K : List Int) (nx len : Int) (w : World) (hD : Dg w D hs xs nx len) (hK : Wd w 43 4 K) (hn : n = 64 * m) (hc : n ≤ c) (hbl : b < w.heap.size) (hq8 : ∀ j, 0 ≤ q.getD j 0 ∧ q.getD j 0 ≤ 255) (hcm : c ≤ 9223372036854775807) (hq : ∀ j, j < n → w.cell? ⟨b, o + j, none⟩ = some (.int .u8 (q.getD j 0))) :
    Calls Tryd.prog 88 #[.pointer (some ⟨D, 0, none⟩), .slice (some ⟨b, o, none⟩) n c] w fun e w' => e = .returned (.tuple #[]) ∧ Dg w' D (blockF K q m hs) xs nx len ∧ w.grownBy w' (some D) := by
  have HC := Aside0.mk (blk D b o m n c hs xs q K nx len w hD hK hn hc hbl hq8 hcm hq)
  clear hD hK hn hc hbl hq8 hcm hq
  go_enter Tryd.func88, Tryd.ntmps88
  go_wp2_with fail
  (with_reducible refine HC.out.mono ?_)
  rintro e w1 ⟨rfl, h1, g1⟩
  have H1 := Aside0.mk h1
  have G1 := Aside0.mk g1
  clear h1 g1
  go_wp2
  go_end0
  exact ⟨rfl, H1.out, G1.out⟩

theorem Dg.row {w : World} {D k : Nat} {hs xs ys : List Int} {nx len : Int} (h : Dg w D hs xs nx len) (hk : k + ys.length ≤ 64) :
    Dg (w.setRow D ((dig hs xs nx len).take (8 + k) ++ (nums .u8 ys ++ (dig hs xs nx len).drop (8 + k + ys.length))).toArray) D hs (xs.take k ++ (ys ++ xs.drop (k + ys.length))) nx len := by
  have hx := h.x64
  have h8 := h.h8
  refine ⟨h.h8, by simp [hx]; omega, ?_⟩
  rw [setRow_heap w D _ _ 99 (0, 0) h.blk]
  congr 2
  have e1 : (dig hs xs nx len).take (8 + k) = nums .u32 hs ++ nums .u8 (xs.take k) := by
    unfold dig
    rw [List.take_append, nums_len, h8, List.take_of_length_le (by rw [nums_len, h8]; omega), List.take_append_of_le_length (by rw [nums_len, hx]; omega), Nat.add_sub_cancel_left]
    simp [nums]
  have e2 : (dig hs xs nx len).drop (8 + k + ys.length) = nums .u8 (xs.drop (k + ys.length)) ++ [.int .i64 nx, .int .u64 len, .bool false] := by
    unfold dig
    rw [List.drop_append, nums_len, h8, List.drop_of_length_le (by rw [nums_len, h8]; omega), List.nil_append, List.drop_append_of_le_length (by rw [nums_len, hx]; omega), show 8 + k + ys.length - 8 = k + ys.length by omega]
    simp [nums]
  rw [e1, e2]
  unfold dig
  simp [nums]

theorem src_of {w : World} {b o : Nat} {ys : List Int} (h : ∀ j, j < ys.length → w.cell? ⟨b, o + j, none⟩ = some (.int .u8 (ys.getD j 0))) : ∀ j v, (nums .u8 ys)[j]? = some v → w.cell? ((⟨b, o, none⟩ : Addr).add j) = some v := fun j v hv => by
  have hj : j < ys.length := by
    have := (List.getElem?_eq_some_iff.1 hv).1
    simpa [nums] using this
  rw [Addr.add_lit, h j hj, ← hv, nums_at]
  simp [List.getD, List.getElem?_eq_getElem hj]
theorem one_nums (ys : List Int) : ∀ u ∈ nums .u8 ys, u.oneCell' = true := fun u hu => by
  simp only [nums, List.mem_map] at hu
  obtain ⟨q, _, rfl⟩ := hu
  rfl
theorem Dg.size75 {w : World} {D : Nat} {hs xs : List Int} {nx len : Int} (h : Dg w D hs xs nx len) : (dig hs xs nx len).toArray.size = 75 := by
  rw [List.size_toArray, dig, List.length_append, nums_len, List.length_append, nums_len, h.h8, h.x64]
  rfl

end Go.Proofs.YtodofpjdcongnaaDoor.Sign
end

section
/- (*Digest).Write into an empty digest. -/
namespace Go.Proofs.YtodofpjdcongnaaDoor.Sign
open Go.RowKit Go.Proofs.YtodofpjdcongnaaDoorW.PrintWords

set_option maxHeartbeats 16000000 in
set_option maxRecDepth 100000 in
theorem write0 (D b o n c : Nat) (hs xs q K : List Int) (len : Int) (w : World) (hD : Dg w D hs xs 0 len) (hK : Wd w 43 4 K) (hc : n ≤ c) (hbl : b < w.heap.size) (hq8 : ∀ j, 0 ≤ q.getD j 0 ∧ q.getD j 0 ≤ 255) (hn0 : 0 < n) (hm : n ≤ 4096) (hcm : c ≤ 9223372036854775807) (hl : 0 ≤ len ∧ len ≤ 4096) (hql : q.length = n) (hDB : D ≠ b) (hD4 : D ≠ 4) (hq : ∀ j, j < n → w.cell? ⟨b, o + j, none⟩ = some (.int .u8 (q.getD j 0))) :
    Calls Tryd.prog 85 #[.pointer (some ⟨D, 0, none⟩), .slice (some ⟨b, o, none⟩) n c] w fun e w' => e = .returned (.tuple #[.int .i64 n, .nilIface]) ∧ Dg w' D (blockF K q (n / 64) hs) (q.drop (64 * (n / 64)) ++ xs.drop (n % 64)) (n % 64 : Nat) (len + n) ∧ w.grownBy w' (some D) := by
  have c72 := hD.cell_nx
  have c73 := hD.cell_len
  have f73 := hD.free 73
  have f72 := hD.free 72
  have H := Aside0.mk hD
  have HK := Aside0.mk hK
  have HQ := Aside0.mk hq
  have HQ8 := Aside0.mk hq8
  have HBL := Aside0.mk hbl
  have HQL := Aside0.mk hql
  obtain ⟨hl0, hl1⟩ := hl
  have hu99 := Tryd.underlying99
  obtain ⟨m, hm'⟩ : ∃ m, m = n / 64 := ⟨_, rfl⟩
  rw [← hm']
  have hmle : 64 * m ≤ n ∧ n < 64 * m + 64 := by omega
  obtain ⟨hm1, hm2⟩ := hmle
  have hr : n % 64 = n - 64 * m := by omega
  rw [hr]
  have HMM := Aside0.mk hm'
  have ha : bits .andNot .i64 (n : Int) 63 = ((64 * m : Nat) : Int) := by rw [hm']; exact and63 n hm
  obtain ⟨L, hL⟩ : ∃ L, L = 64 * m := ⟨_, rfl⟩
  rw [← hL] at ha hm1 hm2
  rw [← hL]
  have HL := Aside0.mk hL
  have HNB : Aside0 (some b ≠ some D) := Aside0.mk (by intro e; exact hDB (Option.some.inj e).symm)
  have HN4 : Aside0 (some 4 ≠ some D) := Aside0.mk (by intro e; exact hD4 (Option.some.inj e).symm)
  obtain ⟨w1, hw1⟩ : ∃ w1, w1 = w.setCell ⟨D, 73, none⟩ (.int .u64 (len + (n : Int))) := ⟨_, rfl⟩
  have hD1 : Dg w1 D hs xs 0 (len + n) := by rw [hw1]; exact H.out.set_len _
  have hg1 : w.grownBy w1 (some D) := by rw [hw1]; exact grown_put _ _ _ _
  have HW1 := Aside0.mk hw1
  have HD1 := Aside0.mk hD1
  have HG1 := Aside0.mk hg1
  clear hL hm' hr hD hK hq hq8 hbl hql hDB hD4 hw1 hD1 hg1
  go_enter Tryd.func85, Tryd.ntmps85
  by_cases h64 : 64 ≤ n
  · have hL64 : 64 ≤ L := by have := HL.out; have := HMM.out; omega
    have hLb : L ≤ 4096 := by omega
    go_wp2_with fail
    clear ha
    refine wp_loop_rounds 1 ?_
    rw [rounds_succ]
    rw [← HW1.out]
    clear c72 c73 f72 f73
    have HC := Aside0.mk (blk88 D b o m L c hs xs q K 0 (len + n) w1 HD1.out (HK.out.grown HG1.out HN4.out) HL.out (by omega) (Nat.lt_of_lt_of_le HBL.out HG1.out.size) HQ8.out hcm (fun j hj => HG1.out.cell (HQ.out j (by omega)) HNB.out))
    go_wp2_with fail
    (with_reducible refine HC.out.mono ?_)
    rintro e w2 ⟨rfl, hD2, hg2⟩
    have HD2 := Aside0.mk hD2
    have HG2 := Aside0.mk (HG1.out.trans hg2)
    clear hD2 hg2 HC HD1 HG1 HW1
    by_cases hnL : n = L
    · subst hnL
      by_cases hcc : c = n
      all_goals
        go_wp2
        go_ret2
        refine ⟨rfl, ?_, HG2.out⟩
        rw [Nat.sub_self, List.drop_of_length_le (by rw [HQL.out]; exact Nat.le_refl _)]
        exact HD2.out
    · have hlt : L < n := by omega
      have hcc : ¬ c = L := by omega
      have hlt2 : (L : Int) < (n : Int) := by omega
      have hlt3 : (0 : Int) < ((n - L : Nat) : Int) := by omega
      obtain ⟨ys, hys⟩ : ∃ ys, ys = q.drop L := ⟨_, rfl⟩
      have hyl : ys.length = n - L := by rw [hys, List.length_drop, HQL.out]
      have HCN : Aside0 ((nums .u8 ys).length = Nat.min (n - L) 64) := Aside0.mk (by
        show _ = min _ _
        rw [nums_len, hyl, Nat.min_eq_left (by omega)])
      have HS := Aside0.mk (src_of (w := w2) (b := b) (o := o + L) (ys := ys) (fun j hj => by
        rw [hyl] at hj
        have hc := HG2.out.cell (HQ.out (L + j) (by omega)) HNB.out
        rw [show o + (L + j) = o + L + j by omega] at hc
        rw [hc, hys]
        simp [List.getD, List.getElem?_drop]))
      have HF : Aside0 (8 + (nums .u8 ys).length ≤ (dig (blockF K q m hs) xs 0 (len + n)).toArray.size) := Aside0.mk (by
        rw [HD2.out.size75, nums_len, hyl]
        omega)
      have H1C := Aside0.mk (one_nums ys)
      have HGL : Aside0 (goInt (nums .u8 ys).length = .int .i64 ((n - L : Nat) : Int)) := Aside0.mk (by rw [nums_len, hyl]; rfl)
      have hrow := HD2.out.row (k := 0) (ys := ys) (by omega)
      have HYS := Aside0.mk hys
      have HYL := Aside0.mk hyl
      obtain ⟨w3, hw3⟩ : ∃ w3, w3 = w2.setRow D ((dig (blockF K q m hs) xs 0 (len + n)).take (8 + 0) ++ (nums .u8 ys ++ (dig (blockF K q m hs) xs 0 (len + n)).drop (8 + 0 + ys.length))).toArray := ⟨_, rfl⟩
      have hD3 : Dg w3 D (blockF K q m hs) ((xs.take 0) ++ (ys ++ xs.drop (0 + ys.length))) 0 (len + n) := by rw [hw3]; exact hrow
      have hg3 : w2.grownBy w3 (some D) := by rw [hw3]; exact grown_row _ _ _
      have c72 := hD3.cell_nx
      have f72 := hD3.free 72
      have HW3 := Aside0.mk hw3
      have HD3 := Aside0.mk hD3
      have HG3 := Aside0.mk hg3
      clear hw3 hD3 hg3 hrow hys hyl
      go_wp2_with (refine wpList_copy_own (o := ⟨some 92, _, _, _, _, _⟩) rfl (.tmp 90) (.tmp 91) 22 22 rfl 5 Tryd.underlying22 info5s D 8 64 64 ⟨b, o + L, none⟩ (n - L) (c - L) rfl rfl _ 99 HD2.out.blk (nums .u8 ys) HCN.out HS.out HF.out H1C.out ?_; rw [HGL.out, nums_len]; rw [show (w2.setRow D ((dig (blockF K q m hs) xs 0 (len + n)).toArray.toList.take 8 ++ (nums .u8 ys ++ (dig (blockF K q m hs) xs 0 (len + n)).toArray.toList.drop (8 + ys.length))).toArray) = w3 from HW3.out.symm])
      go_ret2
      refine ⟨rfl, ?_, (HG2.out.trans HG3.out).trans (grown_put _ _ _ _)⟩
      have hf := HD3.out.set_nx ((n - L : Nat) : Int)
      rw [List.take_zero, List.nil_append, Nat.zero_add, HYS.out, List.length_drop, HQL.out] at hf
      exact hf
  · have hL0 : L = 0 := by have := HL.out; have := HMM.out; omega
    have hm0 : m = 0 := by have := HMM.out; omega
    subst hL0
    subst hm0
    have hlt3 : (0 : Int) < (n : Int) := by omega
    have HCN : Aside0 ((nums .u8 q).length = Nat.min n 64) := Aside0.mk (by
      show _ = min _ _
      rw [nums_len, HQL.out, Nat.min_eq_left (by omega)])
    have HS := Aside0.mk (src_of (w := w1) (b := b) (o := o) (ys := q) (fun j hj => by
      rw [HQL.out] at hj
      exact HG1.out.cell (HQ.out j (by omega)) HNB.out))
    have HF : Aside0 (8 + (nums .u8 q).length ≤ (dig hs xs 0 (len + n)).toArray.size) := Aside0.mk (by
      rw [HD1.out.size75, nums_len, HQL.out]
      omega)
    have H1C := Aside0.mk (one_nums q)
    have HGL : Aside0 (goInt (nums .u8 q).length = .int .i64 (n : Int)) := Aside0.mk (by rw [nums_len, HQL.out]; rfl)
    have hrow := HD1.out.row (k := 0) (ys := q) (by rw [HQL.out]; omega)
    obtain ⟨w3, hw3⟩ : ∃ w3, w3 = w1.setRow D ((dig hs xs 0 (len + n)).take (8 + 0) ++ (nums .u8 q ++ (dig hs xs 0 (len + n)).drop (8 + 0 + q.length))).toArray := ⟨_, rfl⟩
    have hD3 : Dg w3 D hs ((xs.take 0) ++ (q ++ xs.drop (0 + q.length))) 0 (len + n) := by rw [hw3]; exact hrow
    have hg3 : w1.grownBy w3 (some D) := by rw [hw3]; exact grown_row _ _ _
    have c72' := hD3.cell_nx
    have f72' := hD3.free 72
    have HW3 := Aside0.mk hw3
    have HD3 := Aside0.mk hD3
    have HG3 := Aside0.mk hg3
    clear hw3 hD3 hg3 hrow ha
    go_wp2_with (rw [← HW1.out]; refine wpList_copy_own (o := ⟨some 92, _, _, _, _, _⟩) rfl (.tmp 90) (.tmp 91) 22 22 rfl 5 Tryd.underlying22 info5s D 8 64 64 ⟨b, o, none⟩ n c rfl rfl _ 99 HD1.out.blk (nums .u8 q) HCN.out HS.out HF.out H1C.out ?_; rw [HGL.out, nums_len]; rw [show (w1.setRow D ((dig hs xs 0 (len + n)).toArray.toList.take 8 ++ (nums .u8 q ++ (dig hs xs 0 (len + n)).toArray.toList.drop (8 + q.length))).toArray) = w3 from HW3.out.symm])
    go_ret2
    refine ⟨rfl, ?_, (HG1.out.trans HG3.out).trans (grown_put _ _ _ _)⟩
    have hf := HD3.out.set_nx (n : Int)
    rw [List.take_zero, List.nil_append, Nat.zero_add, HQL.out] at hf
    exact hf
end Go.Proofs.YtodofpjdcongnaaDoor.Sign
end

section
/- (*Digest).Write: into a digest whose sixty-four bytes are filled up. -/
namespace Go.Proofs.YtodofpjdcongnaaDoor.Sign
open Go.RowKit Go.Proofs.YtodofpjdcongnaaDoorW.PrintWords

def B8 (l : List Int) : Prop := ∀ x ∈ l, 0 ≤ x ∧ x ≤ 255
theorem B8.at {l : List Int} (h : B8 l) (j : Nat) : 0 ≤ l.getD j 0 ∧ l.getD j 0 ≤ 255 := by
  by_cases hj : j < l.length
  · rw [List.getD_eq_getElem?_getD, List.getElem?_eq_getElem hj]
    exact h _ (List.getElem_mem hj)
  · rw [List.getD_eq_getElem?_getD, List.getElem?_eq_none (by omega)]
    exact ⟨Int.le_refl 0, by decide⟩
theorem B8.append {l m : List Int} (h : B8 l) (k : B8 m) : B8 (l ++ m) := fun x hx => (List.mem_append.1 hx).elim (h x) (k x)
theorem B8.take {l : List Int} (h : B8 l) (n : Nat) : B8 (l.take n) := fun x hx => h x (List.mem_of_mem_take hx)
theorem B8.drop {l : List Int} (h : B8 l) (n : Nat) : B8 (l.drop n) := fun x hx => h x (List.mem_of_mem_drop hx)

set_option maxHeartbeats 16000000 in
set_option maxRecDepth 100000 in
theorem write1 (D b o k t c : Nat) (hs xs q K : List Int) (len : Int) (w : World) (hD : Dg w D hs xs k len) (hK : Wd w 43 4 K) (hk : 0 < k) (ht : k + t = 64) (ht0 : 0 < t) (_hc : t ≤ c) (hx8 : B8 xs) (hq8 : B8 q) (_hcm : c ≤ 9223372036854775807) (hl : 0 ≤ len ∧ len ≤ 4096) (hql : q.length = t) (hDB : D ≠ b) (hD4 : D ≠ 4) (hq : ∀ j, j < t → w.cell? ⟨b, o + j, none⟩ = some (.int .u8 (q.getD j 0))) :
    Calls Tryd.prog 85 #[.pointer (some ⟨D, 0, none⟩), .slice (some ⟨b, o, none⟩) t c] w fun e w' => e = .returned (.tuple #[.int .i64 t, .nilIface]) ∧ Dg w' D (blockF K (xs.take k ++ q) 1 hs) (xs.take k ++ q) 0 (len + t) ∧ w.grownBy w' (some D) := by
  have H := Aside0.mk hD
  have HK := Aside0.mk hK
  have HQ := Aside0.mk hq
  have HQ8 := Aside0.mk hq8
  have HX8 := Aside0.mk hx8
  have HQL := Aside0.mk hql
  have HT := Aside0.mk ht
  obtain ⟨hl0, hl1⟩ := hl
  have hu99 := Tryd.underlying99
  have HNB : Aside0 (some b ≠ some D) := Aside0.mk (by intro e; exact hDB (Option.some.inj e).symm)
  have HN4 : Aside0 (some 4 ≠ some D) := Aside0.mk (by intro e; exact hD4 (Option.some.inj e).symm)
  have c72 := hD.cell_nx
  have c73 := hD.cell_len
  have f73 := hD.free 73
  have f72 := hD.free 72
  obtain ⟨w1, hw1⟩ : ∃ w1, w1 = w.setCell ⟨D, 73, none⟩ (.int .u64 (len + (t : Int))) := ⟨_, rfl⟩
  have hD1 : Dg w1 D hs xs k (len + t) := by rw [hw1]; exact H.out.set_len _
  have hg1 : w.grownBy w1 (some D) := by rw [hw1]; exact grown_put _ _ _ _
  have HW1 := Aside0.mk hw1
  have HD1 := Aside0.mk hD1
  have HG1 := Aside0.mk hg1
  have hk64 : k < 64 := by omega
  have ht64 : t < 64 := by omega
  have hki : (0 : Int) < (k : Int) := by omega
  have hki2 : (k : Int) ≤ 64 := by omega
  clear hD hK hq hx8 hq8 hql hDB hD4 hw1 hD1 hg1 ht
  go_enter Tryd.func85, Tryd.ntmps85
  go_wp2_with fail
  rw [← HW1.out]
  have c72' := HD1.out.cell_nx
  clear c72 c73 f72 f73
  go_still_tail 9, (by kernel_rfl)
  change wpList _ _ _ _ _ w1.drew
  obtain ⟨w2, hw2⟩ : ∃ w2, w2 = w1.drew := ⟨_, rfl⟩
  rw [← hw2]
  have hD2 : Dg w2 D hs xs k (len + t) := by rw [hw2]; exact HD1.out.drew
  have hg2 : w.grownBy w2 (some D) := by rw [hw2]; exact HG1.out.trans (grown_drew _ _)
  have HD2 := Aside0.mk hD2
  have HG2 := Aside0.mk hg2
  clear hw2 hD2 hg2 c72' HD1 HG1 HW1
  have HCN : Aside0 ((nums .u8 q).length = Nat.min t (64 - k)) := Aside0.mk (by
    have := HT.out
    show _ = min _ _
    rw [nums_len, HQL.out, Nat.min_eq_left (by omega)])
  have HS := Aside0.mk (src_of (w := w2) (b := b) (o := o) (ys := q) (fun j hj => by
    rw [HQL.out] at hj
    exact HG2.out.cell (HQ.out j (by omega)) HNB.out))
  have HF : Aside0 (8 + k + (nums .u8 q).length ≤ (dig hs xs k (len + t)).toArray.size) := Aside0.mk (by
    have := HT.out
    rw [HD2.out.size75, nums_len, HQL.out]
    omega)
  have H1C := Aside0.mk (one_nums q)
  have HGL : Aside0 (goInt (nums .u8 q).length = .int .i64 (t : Int)) := Aside0.mk (by rw [nums_len, HQL.out]; rfl)
  have hrow := HD2.out.row (k := k) (ys := q) (by have := HT.out; rw [HQL.out]; omega)
  rw [show k + q.length = 64 by rw [HQL.out]; exact HT.out, show xs.drop 64 = [] from List.drop_of_length_le (by rw [HD2.out.x64]; exact Nat.le_refl _), List.append_nil] at hrow
  obtain ⟨w3, hw3⟩ : ∃ w3, w3 = w2.setRow D ((dig hs xs k (len + t)).take (8 + k) ++ (nums .u8 q ++ (dig hs xs k (len + t)).drop (8 + k + q.length))).toArray := ⟨_, rfl⟩
  have hD3 : Dg w3 D hs (xs.take k ++ q) k (len + t) := by rw [hw3]; exact hrow
  have hg3 : w.grownBy w3 (some D) := by rw [hw3]; exact HG2.out.trans (grown_row _ _ _)
  have c72 := hD3.cell_nx
  have f72 := hD3.free 72
  have HW3 := Aside0.mk hw3
  have HD3 := Aside0.mk hD3
  have HG3 := Aside0.mk hg3
  obtain ⟨w4, hw4⟩ : ∃ w4, w4 = w3.setCell ⟨D, 72, none⟩ (.int .i64 64) := ⟨_, rfl⟩
  have hD4 : Dg w4 D hs (xs.take k ++ q) 64 (len + t) := by rw [hw4]; exact HD3.out.set_nx 64
  have hg4 : w.grownBy w4 (some D) := by rw [hw4]; exact HG3.out.trans (grown_put _ _ _ _)
  have HW4 := Aside0.mk hw4
  have HD4 := Aside0.mk hD4
  have HG4 := Aside0.mk hg4
  have HC := Aside0.mk (blk88 D D 8 1 64 64 hs (xs.take k ++ q) (xs.take k ++ q) K 64 (len + t) w4 HD4.out (HK.out.grown HG4.out HN4.out) rfl (Nat.le_refl _) (blk_lt HD4.out.blk) ((HX8.out.take k).append HQ8.out).at (by decide) (fun j hj => HD4.out.cell_x j hj))
  clear hw3 hD3 hg3 hrow hw4 hD4 hg4
  have he : (k : Int) + (t : Int) = 64 := by have := HT.out; omega
  rw [if_neg (show ¬ 64 = k by omega)]
  refine wpList_copy_own (o := ⟨some 33, _, _, _, _, _⟩) rfl (.tmp 31) (.tmp 32) 22 22 rfl 5 Tryd.underlying22 info5s D (8 + k) (64 - k) (64 - k) ⟨b, o, none⟩ t c rfl rfl _ 99 HD2.out.blk (nums .u8 q) HCN.out HS.out HF.out H1C.out ?_
  rw [HGL.out, nums_len]
  rw [show (w2.setRow D ((dig hs xs k (len + t)).toArray.toList.take (8 + k) ++ (nums .u8 q ++ (dig hs xs k (len + t)).toArray.toList.drop (8 + k + q.length))).toArray) = w3 from HW3.out.symm]
  go_wp2_with fail
  rw [← HW4.out]
  (with_reducible refine HC.out.mono ?_)
  rintro e w5 ⟨rfl, hD5, hg5⟩
  have c72 := hD5.cell_nx
  have f72 := hD5.free 72
  have HD5 := Aside0.mk hD5
  have HG5 := Aside0.mk (HG4.out.trans hg5)
  clear hD5 hg5 HC
  by_cases hct : c = t
  all_goals
    go_wp2
    go_ret2
    exact ⟨rfl, HD5.out.set_nx 0, HG5.out.trans (grown_put _ _ _ _)⟩
end Go.Proofs.YtodofpjdcongnaaDoor.Sign
end

section
/- (*Digest).Write: into a digest that is filled up, and sixty-four bytes more. -/
namespace Go.Proofs.YtodofpjdcongnaaDoor.Sign
open Go.RowKit Go.Proofs.YtodofpjdcongnaaDoorW.PrintWords

set_option maxHeartbeats 16000000 in
set_option maxRecDepth 100000 in
theorem write2 (D b o k t n c : Nat) (hs xs q q2 K : List Int) (len : Int) (w : World) (hD : Dg w D hs xs k len) (hK : Wd w 43 4 K) (hk : 0 < k) (ht : k + t = 64) (ht0 : 0 < t) (hnt' : n = t + 64) (hc : n ≤ c) (hx8 : B8 xs) (hq8 : B8 q) (hp8 : B8 q2) (hcm : c ≤ 9223372036854775807) (hl : 0 ≤ len ∧ len ≤ 4096) (hql : q.length = t) (hDB : D ≠ b) (hD4 : D ≠ 4) (hq : ∀ j, j < t → w.cell? ⟨b, o + j, none⟩ = some (.int .u8 (q.getD j 0))) (hp : ∀ j, j < 64 → w.cell? ⟨b, o + t + j, none⟩ = some (.int .u8 (q2.getD j 0))) (hbl : b < w.heap.size) :
    Calls Tryd.prog 85 #[.pointer (some ⟨D, 0, none⟩), .slice (some ⟨b, o, none⟩) n c] w fun e w' => e = .returned (.tuple #[.int .i64 n, .nilIface]) ∧ Dg w' D (blockF K q2 1 (blockF K (xs.take k ++ q) 1 hs)) (xs.take k ++ q) 0 (len + n) ∧ w.grownBy w' (some D) := by
  have H := Aside0.mk hD
  have HK := Aside0.mk hK
  have HQ := Aside0.mk hq
  have HQ8 := Aside0.mk hq8
  have HX8 := Aside0.mk hx8
  have HQL := Aside0.mk hql
  have HT := Aside0.mk ht
  obtain ⟨hl0, hl1⟩ := hl
  have HP := Aside0.mk hp
  have HP8 := Aside0.mk hp8
  have HBL := Aside0.mk hbl
  have hnt : n - t = 64 := by omega
  have HNT := Aside0.mk hnt
  have hnb1 : t + 64 ≤ n := by omega
  have hnb2 : n ≤ 127 := by omega
  have hnb3 : t ≤ n := by omega
  have hu99 := Tryd.underlying99
  have HNB : Aside0 (some b ≠ some D) := Aside0.mk (by intro e; exact hDB (Option.some.inj e).symm)
  have HN4 : Aside0 (some 4 ≠ some D) := Aside0.mk (by intro e; exact hD4 (Option.some.inj e).symm)
  have c72 := hD.cell_nx
  have c73 := hD.cell_len
  have f73 := hD.free 73
  have f72 := hD.free 72
  obtain ⟨w1, hw1⟩ : ∃ w1, w1 = w.setCell ⟨D, 73, none⟩ (.int .u64 (len + (n : Int))) := ⟨_, rfl⟩
  have hD1 : Dg w1 D hs xs k (len + n) := by rw [hw1]; exact H.out.set_len _
  have hg1 : w.grownBy w1 (some D) := by rw [hw1]; exact grown_put _ _ _ _
  have HW1 := Aside0.mk hw1
  have HD1 := Aside0.mk hD1
  have HG1 := Aside0.mk hg1
  have hk64 : k < 64 := by omega
  have ht64 : t < 64 := by omega
  have hki : (0 : Int) < (k : Int) := by omega
  have hki2 : (k : Int) ≤ 64 := by omega
  clear hD hK hq hx8 hq8 hql hp hp8 hbl hnt hnt' hDB hD4 hw1 hD1 hg1 ht
  go_enter Tryd.func85, Tryd.ntmps85
  go_wp2_with fail
  rw [← HW1.out]
  have c72' := HD1.out.cell_nx
  clear c72 c73 f72 f73
  go_still_tail 9, (by kernel_rfl)
  change wpList _ _ _ _ _ w1.drew
  obtain ⟨w2, hw2⟩ : ∃ w2, w2 = w1.drew := ⟨_, rfl⟩
  rw [← hw2]
  have hD2 : Dg w2 D hs xs k (len + n) := by rw [hw2]; exact HD1.out.drew
  have hg2 : w.grownBy w2 (some D) := by rw [hw2]; exact HG1.out.trans (grown_drew _ _)
  have HD2 := Aside0.mk hD2
  have HG2 := Aside0.mk hg2
  clear hw2 hD2 hg2 c72' HD1 HG1 HW1
  have HCN : Aside0 ((nums .u8 q).length = Nat.min n (64 - k)) := Aside0.mk (by
    have := HT.out
    show _ = min _ _
    rw [nums_len, HQL.out, Nat.min_eq_right (by omega)]; omega)
  have HS := Aside0.mk (src_of (w := w2) (b := b) (o := o) (ys := q) (fun j hj => by
    rw [HQL.out] at hj
    exact HG2.out.cell (HQ.out j (by omega)) HNB.out))
  have HF : Aside0 (8 + k + (nums .u8 q).length ≤ (dig hs xs k (len + n)).toArray.size) := Aside0.mk (by
    have := HT.out
    rw [HD2.out.size75, nums_len, HQL.out]
    omega)
  have H1C := Aside0.mk (one_nums q)
  have HGL : Aside0 (goInt (nums .u8 q).length = .int .i64 (t : Int)) := Aside0.mk (by rw [nums_len, HQL.out]; rfl)
  have hrow := HD2.out.row (k := k) (ys := q) (by have := HT.out; rw [HQL.out]; omega)
  rw [show k + q.length = 64 by rw [HQL.out]; exact HT.out, show xs.drop 64 = [] from List.drop_of_length_le (by rw [HD2.out.x64]; exact Nat.le_refl _), List.append_nil] at hrow
  obtain ⟨w3, hw3⟩ : ∃ w3, w3 = w2.setRow D ((dig hs xs k (len + n)).take (8 + k) ++ (nums .u8 q ++ (dig hs xs k (len + n)).drop (8 + k + q.length))).toArray := ⟨_, rfl⟩
  have hD3 : Dg w3 D hs (xs.take k ++ q) k (len + n) := by rw [hw3]; exact hrow
  have hg3 : w.grownBy w3 (some D) := by rw [hw3]; exact HG2.out.trans (grown_row _ _ _)
  have c72 := hD3.cell_nx
  have f72 := hD3.free 72
  have HW3 := Aside0.mk hw3
  have HD3 := Aside0.mk hD3
  have HG3 := Aside0.mk hg3
  obtain ⟨w4, hw4⟩ : ∃ w4, w4 = w3.setCell ⟨D, 72, none⟩ (.int .i64 64) := ⟨_, rfl⟩
  have hD4 : Dg w4 D hs (xs.take k ++ q) 64 (len + n) := by rw [hw4]; exact HD3.out.set_nx 64
  have hg4 : w.grownBy w4 (some D) := by rw [hw4]; exact HG3.out.trans (grown_put _ _ _ _)
  have HW4 := Aside0.mk hw4
  have HD4 := Aside0.mk hD4
  have HG4 := Aside0.mk hg4
  have HC := Aside0.mk (blk88 D D 8 1 64 64 hs (xs.take k ++ q) (xs.take k ++ q) K 64 (len + n) w4 HD4.out (HK.out.grown HG4.out HN4.out) rfl (Nat.le_refl _) (blk_lt HD4.out.blk) ((HX8.out.take k).append HQ8.out).at (by decide) (fun j hj => HD4.out.cell_x j hj))
  clear hw3 hD3 hg3 hrow hw4 hD4 hg4
  have he : (k : Int) + (t : Int) = 64 := by have := HT.out; omega
  rw [if_neg (show ¬ 64 = k by omega)]
  refine wpList_copy_own (o := ⟨some 33, _, _, _, _, _⟩) rfl (.tmp 31) (.tmp 32) 22 22 rfl 5 Tryd.underlying22 info5s D (8 + k) (64 - k) (64 - k) ⟨b, o, none⟩ n c rfl rfl _ 99 HD2.out.blk (nums .u8 q) HCN.out HS.out HF.out H1C.out ?_
  rw [HGL.out, nums_len]
  rw [show (w2.setRow D ((dig hs xs k (len + n)).toArray.toList.take (8 + k) ++ (nums .u8 q ++ (dig hs xs k (len + n)).toArray.toList.drop (8 + k + q.length))).toArray) = w3 from HW3.out.symm]
  go_wp2_with fail
  rw [← HW4.out]
  (with_reducible refine HC.out.mono ?_)
  rintro e w5 ⟨rfl, hD5, hg5⟩
  have c72 := hD5.cell_nx
  have f72 := hD5.free 72
  have HD5 := Aside0.mk hD5
  have HG5 := Aside0.mk (HG4.out.trans hg5)
  clear hD5 hg5 HC
  have HC2 := Aside0.mk (blk88 D b (o + t) 1 64 (c - t) (blockF K (xs.take k ++ q) 1 hs) (xs.take k ++ q) q2 K 0 (len + n) (w5.setCell ⟨D, 72, none⟩ (.int .i64 0)) (HD5.out.set_nx 0) (HK.out.grown (HG5.out.trans (grown_put _ _ _ _)) HN4.out) rfl (by omega) (by have := (HG5.out.trans (grown_put w5 D 72 (.int .i64 0))).size; have := HBL.out; omega) HP8.out.at (by omega) (fun j hj => (HG5.out.trans (grown_put _ _ _ _)).cell (HP.out j hj) HNB.out))
  have hnt := HNT.out
  have ha : bits .andNot .i64 64 63 = 64 := by kernel_rfl
  have hct : ¬ c = t := by omega
  have hct2 : 64 ≤ c - t := by omega
  go_wp2_with fail
  refine wp_loop_rounds 1 ?_
  rw [rounds_succ]
  go_wp2_with fail
  (with_reducible refine HC2.out.mono ?_)
  rintro e w6 ⟨rfl, hD6, hg6⟩
  have HD6 := Aside0.mk hD6
  have HG6 := Aside0.mk ((HG5.out.trans (grown_put _ _ _ _)).trans hg6)
  clear hD6 hg6 HC2
  by_cases hc6 : c - t = 64
  all_goals
    go_wp2
    go_ret2
    exact ⟨rfl, HD6.out, HG6.out⟩
end Go.Proofs.YtodofpjdcongnaaDoor.Sign
end

/- (*bytes.Reader).Read: what is left is copied; at the end io.EOF. -/
import Derived.Test.YtodofpjdcongnaaDoorSignBuf
import Derived.StillTailTactics
namespace Go.Proofs.YtodofpjdcongnaaDoor.Sign
open Go.RowKit Go.Proofs.YtodofpjdcongnaaDoorW.PrintWords

/-- a row of 4096 bytes -/
structure Pg (w : World) (g : Nat) (pg : List Int) : Prop where
  len : pg.length = 4096
  blk : w.heap[g]? = some (.cells (nums .u8 pg).toArray 68 (0, 0))
theorem Pg.grown {w w1 : World} {g : Nat} {pg : List Int} {row : Option Nat} (h : Pg w g pg) (hg : w.grownBy w1 row) (hr : some g ≠ row) : Pg w1 g pg := ⟨h.len, blk_grown h.blk hg hr⟩
theorem Pg.row {w : World} {g : Nat} {pg ys : List Int} (h : Pg w g pg) (hy : ys.length ≤ 4096) : Pg (w.setRow g ((nums .u8 pg).take 0 ++ (nums .u8 ys ++ (nums .u8 pg).drop (0 + ys.length))).toArray) g (ys ++ pg.drop ys.length) := by
  have hl := h.len
  refine ⟨by rw [List.length_append, List.length_drop]; omega, ?_⟩
  rw [setRow_heap w g _ _ 68 (0, 0) h.blk]
  congr 2
  simp [nums]

set_option maxHeartbeats 8000000 in
set_option maxRecDepth 100000 in
theorem rd_some (rb g b o n c p m : Nat) (x : Int) (q pg : List Int) (w : World) (h : w.heap[rb]? = some (.cells #[.slice (some ⟨b, o, none⟩) n c, .int .i64 (p : Int), .int .i64 x] 77 (0, 0))) (hP : Pg w g pg) (hp : p < n) (hm : m = min 4096 (n - p)) (hn : n ≤ 2147483647) (hnc : n ≤ c) (hql : q.length = n) (hq : ∀ i, i < n → w.cell? ⟨b, o + i, none⟩ = some (.int .u8 (q.getD i 0))) (hrg : rb ≠ g) (hbr : b ≠ rb) :
    Calls Tryd.prog 81 #[.pointer (some ⟨rb, 0, none⟩), .slice (some ⟨g, 0, none⟩) 4096 4096] w fun e w' => e = .returned (.tuple #[.int .i64 m, .nilIface]) ∧ w'.heap[rb]? = some (.cells #[.slice (some ⟨b, o, none⟩) n c, .int .i64 ((p + m : Nat) : Int), .int .i64 (-1)] 77 (0, 0)) ∧ Pg w' g ((q.drop p).take m ++ pg.drop m) ∧ Two w w' rb g := by
  have hc0 : w.cell? ⟨rb, 0, none⟩ = some (.slice (some ⟨b, o, none⟩) n c) := (blk_cell h 0).trans rfl
  have hc1 : w.cell? ⟨rb, 1, none⟩ = some (.int .i64 (p : Int)) := (blk_cell h 1).trans rfl
  have hc2 : w.cell? ⟨rb, 2, none⟩ = some (.int .i64 x) := (blk_cell h 2).trans rfl
  have hf1 := blk_frozen h 1
  have hf2 := blk_frozen h 2
  have H := Aside0.mk h
  have HP := Aside0.mk hP
  have HM := Aside0.mk hm
  have HQ := Aside0.mk hq
  have HQL := Aside0.mk hql
  have HRG := Aside0.mk hrg
  have HBR := Aside0.mk hbr
  have hu77 := Tryd.underlying77
  have hcp : ¬ c = p := by omega
  have hpi : (p : Int) < (n : Int) := by omega
  have hpn : ¬ (n : Int) ≤ (p : Int) := by omega
  have hmb : m ≤ 4096 ∧ m ≤ n - p := by omega
  obtain ⟨hmb1, hmb2⟩ := hmb
  obtain ⟨ys, hys⟩ : ∃ ys, ys = (q.drop p).take m := ⟨_, rfl⟩
  have hyl : ys.length = m := by rw [hys, List.length_take, List.length_drop, hql]; omega
  rw [← hys]
  have HYS := Aside0.mk hys
  have HYL := Aside0.mk hyl
  clear h hP hm hq hql hrg hbr hys hyl
  go_enter Tryd.func81, Tryd.ntmps81
  go_wp2_with fail
  go_quiet (fail)
  go_wp2_with fail
  obtain ⟨w1, hw1⟩ : ∃ w1, w1 = (w.drewN nq).setCell ⟨rb, 2, none⟩ (.int .i64 (-1)) := ⟨_, rfl⟩
  rw [← hw1]
  have hb1 : w1.heap[rb]? = some (.cells #[.slice (some ⟨b, o, none⟩) n c, .int .i64 (p : Int), .int .i64 (-1)] 77 (0, 0)) := by
    rw [hw1]
    have h0 : (w.drewN nq).heap[rb]? = some (.cells #[.slice (some ⟨b, o, none⟩) n c, .int .i64 (p : Int), .int .i64 x] 77 (0, 0)) := H.out
    exact blk_put h0 2 _ rfl
  have hg1 : w.grownBy w1 (some rb) := by rw [hw1]; exact (grown_drewN w nq _).trans (grown_put _ _ _ _)
  have HB1 := Aside0.mk hb1
  have HG1 := Aside0.mk hg1
  have c0' : w1.cell? ⟨rb, 0, none⟩ = some (.slice (some ⟨b, o, none⟩) n c) := (blk_cell hb1 0).trans rfl
  have c1' : w1.cell? ⟨rb, 1, none⟩ = some (.int .i64 (p : Int)) := (blk_cell hb1 1).trans rfl
  clear hw1 hb1 hg1 hc0 hc1 hc2 hf1 hf2
  have hpn1 : (p : Int) ≤ (n : Int) := by omega
  have hpn2 : (p : Int) ≤ (c : Int) := by omega
  go_still_tail 10, (by kernel_rfl)
  change wpList _ _ _ _ _ w1.drew
  obtain ⟨w2, hw2⟩ : ∃ w2, w2 = w1.drew := ⟨_, rfl⟩
  rw [← hw2]
  have hb2 : w2.heap[rb]? = some (.cells #[.slice (some ⟨b, o, none⟩) n c, .int .i64 (p : Int), .int .i64 (-1)] 77 (0, 0)) := by rw [hw2]; exact HB1.out
  have hg2 : w.grownBy w2 (some rb) := by rw [hw2]; exact HG1.out.trans (grown_drew _ _)
  have HB2 := Aside0.mk hb2
  have HG2 := Aside0.mk hg2
  have HP2 := Aside0.mk (HP.out.grown hg2 (by intro e; exact HRG.out (Option.some.inj e).symm))
  clear hw2 hb2 hg2 c0' c1'
  have HCN : Aside0 ((nums .u8 ys).length = Nat.min (n - p) 4096) := Aside0.mk (by
    rw [nums_len, HYL.out, HM.out, Nat.min_comm])
  have HS := Aside0.mk (src_of (w := w2) (b := b) (o := o + p) (ys := ys) (fun j hj => by
    rw [HYL.out] at hj
    have hc := HG2.out.cell (HQ.out (p + j) (by omega)) (by intro e; exact HBR.out (Option.some.inj e))
    rw [show o + (p + j) = o + p + j by omega] at hc
    rw [hc, HYS.out]
    simp [List.getD, hj, List.getElem?_drop]))
  have HF : Aside0 (0 + (nums .u8 ys).length ≤ (nums .u8 pg).toArray.size) := Aside0.mk (by
    rw [List.size_toArray, nums_len, nums_len, HYL.out, HP.out.len]; omega)
  have H1C := Aside0.mk (one_nums ys)
  have HGL : Aside0 (goInt (nums .u8 ys).length = .int .i64 (m : Int)) := Aside0.mk (by rw [nums_len, HYL.out]; rfl)
  have hrow := HP2.out.row (ys := ys) (by rw [HYL.out]; omega)
  rw [HYL.out] at hrow
  obtain ⟨w3, hw3⟩ : ∃ w3, w3 = w2.setRow g ((nums .u8 pg).take 0 ++ (nums .u8 ys ++ (nums .u8 pg).drop (0 + m))).toArray := ⟨_, rfl⟩
  have hP3 : Pg w3 g (ys ++ pg.drop m) := by rw [hw3]; exact hrow
  have hg3 : w2.grownBy w3 (some g) := by rw [hw3]; exact grown_row _ _ _
  have hb3 := blk_grown HB2.out hg3 (by intro e; exact HRG.out (Option.some.inj e))
  have c1 : w3.cell? ⟨rb, 1, none⟩ = some (.int .i64 (p : Int)) := (blk_cell hb3 1).trans rfl
  have f1 := blk_frozen hb3 1
  have HW3 := Aside0.mk hw3
  have HP3 := Aside0.mk hP3
  have HG3 := Aside0.mk hg3
  have HB3 := Aside0.mk hb3
  clear hw3 hP3 hg3 hb3 hrow
  refine wpList_copy_own (o := ⟨some 30, _, _, _, _, _⟩) rfl (.tmp 20) (.tmp 29) 22 22 rfl 5 Tryd.underlying22 info5s g 0 4096 4096 ⟨b, o + p, none⟩ (n - p) (c - p) rfl rfl _ 68 HP2.out.blk (nums .u8 ys) HCN.out HS.out HF.out H1C.out ?_
  rw [HGL.out, nums_len, HYL.out]
  rw [show (w2.setRow g ((nums .u8 pg).toArray.toList.take 0 ++ (nums .u8 ys ++ (nums .u8 pg).toArray.toList.drop (0 + m))).toArray) = w3 from HW3.out.symm]
  go_wp2_with fail
  go_ret2
  refine ⟨rfl, ?_, ?_, ?_⟩
  · rw [show ((p + m : Nat) : Int) = (p : Int) + m by omega]
    exact blk_put HB3.out 1 _ rfl
  · exact HP3.out.grown (grown_put w3 rb 1 _) (by intro e; exact HRG.out (Option.some.inj e).symm)
  · exact (((Two.refl w rb g).grown HG2.out (.inl rfl)).grown HG3.out (.inr (.inl rfl))).grown (grown_put w3 rb 1 _) (.inl rfl)

set_option maxHeartbeats 8000000 in
theorem rd_eof (rb n c L cc : Nat) (A B : Option Addr) (x : Int) (ev : Value) (w : World) (h : w.heap[rb]? = some (.cells #[.slice A n c, .int .i64 (n : Int), .int .i64 x] 77 (0, 0))) (he : w.cell? ⟨0, 0, none⟩ = some ev) :
    Calls Tryd.prog 81 #[.pointer (some ⟨rb, 0, none⟩), .slice B L cc] w fun e w' => e = .returned (.tuple #[.int .i64 0, ev]) ∧ ∃ m, w' = w.drewN m := by
  have hc0 : w.cell? ⟨rb, 0, none⟩ = some (.slice A n c) := (blk_cell h 0).trans rfl
  have hc1 : w.cell? ⟨rb, 1, none⟩ = some (.int .i64 (n : Int)) := (blk_cell h 1).trans rfl
  have hu77 := Tryd.underlying77
  clear h
  go_enter Tryd.func81, Tryd.ntmps81
  go_wp2_with fail
  go_quiet (fail)
  go_wp2_with fail
  go_quiet (fail)
  go_wp2
  go_ret2
  exact ⟨rfl, _, World.drewN_drewN _ _ _⟩
end Go.Proofs.YtodofpjdcongnaaDoor.Sign

/- (*Digest).checkSum: the padding, then the eight words as bytes. -/
import Derived.Test.YtodofpjdcongnaaDoorPad
import Derived.StillTailTactics
namespace Go.Proofs.YtodofpjdcongnaaDoor.Sign
open Go.RowKit Go.Proofs.YtodofpjdcongnaaDoorW.PrintWords

theorem zero74 : ((Tryd.prog.info? 74).bind (·.zero)).map (·.cells) = some (nums .u8 (noughts 32)).toArray := by kernel_rfl
theorem zero126 : ((Tryd.prog.info? 126).bind (·.zero)).map (·.cells) = some (nums .u8 (noughts 72)).toArray := by kernel_rfl
theorem Row8.start {T : TypeId} {w : World} {G N : Nat} (h : w.heap[G]? = some (.cells (nums .u8 (noughts N)).toArray T (0, 0))) : Row8 T w G N [] := ⟨Nat.zero_le _, h⟩
theorem Row8.full {T : TypeId} {w : World} {G N : Nat} {pre : List Int} (h : Row8 T w G N pre) (hp : pre.length = N) : w.heap[G]? = some (.cells (nums .u8 pre).toArray T (0, 0)) := by
  have := h.2
  rw [hp, Nat.sub_self, List.replicate_zero, List.append_nil] at this
  exact this
theorem Row8.below {T : TypeId} {w w1 : World} {G N : Nat} {pre : List Int} (h : Row8 T w G N pre) (hb : Below w.heap.size w w1) : Row8 T w1 G N pre := ⟨h.1, (hb.block G (blk_lt h.2)).trans h.2⟩
theorem Row8.drew {T : TypeId} {w : World} {G N : Nat} {pre : List Int} (h : Row8 T w G N pre) : Row8 T w.drew G N pre := h
theorem info74 : (Tryd.prog.info? 74).map (·.size) = some 32 := by kernel_rfl

theorem grown_step {w a c : World} {r : Nat} (h : w.grownBy a none) (k : a.grownBy c (some r)) (hr : w.heap.size ≤ r) : w.grownBy c none :=
  ⟨k.os.trans h.os, k.tape.trans h.tape, k.output.trans h.output, Nat.le_trans h.size k.size, fun i hi _ => (k.block i (Nat.lt_of_lt_of_le hi h.size) (fun e => by have e : i = r := Option.some.inj e; omega)).trans (h.block i hi (by simp))⟩
theorem World.grownBy.andThen' {w a c : World} {D r : Nat} (h : w.grownBy a (some D)) (k : a.grownBy c (some r)) (hr : w.heap.size ≤ r) : w.grownBy c (some D) :=
  ⟨k.os.trans h.os, k.tape.trans h.tape, k.output.trans h.output, Nat.le_trans h.size k.size, fun i hi hd => (k.block i (Nat.lt_of_lt_of_le hi h.size) (fun e => by have e : i = r := Option.some.inj e; omega)).trans (h.block i hi hd)⟩
theorem grown_any {w a : World} (h : w.grownBy a none) (row : Option Nat) : w.grownBy a row := ⟨h.os, h.tape, h.output, h.size, fun i hi _ => h.block i hi (by simp)⟩

/-- the bytes of eight words -/
def outF (l : List Int) : List Int := ((((((([] ++ be32 (l.getD 0 0)) ++ be32 (l.getD 1 0)) ++ be32 (l.getD 2 0)) ++ be32 (l.getD 3 0)) ++ be32 (l.getD 4 0)) ++ be32 (l.getD 5 0)) ++ be32 (l.getD 6 0)) ++ be32 (l.getD 7 0)
theorem outF_length (l : List Int) : (outF l).length = 32 := rfl

set_option maxHeartbeats 16000000 in
set_option maxRecDepth 100000 in
theorem check_sum (D k n : Nat) (hs xs K : List Int) (w : World) (hD : Dg w D hs xs k n) (hK : Wd w 43 4 K) (hkn : k = n % 64) (hn : n ≤ 4096) (hx8 : B8 xs) (hw : W32 hs) (hD4 : D ≠ 4) :
    Calls Tryd.prog 87 #[.pointer (some ⟨D, 0, none⟩)] w fun e w' => e = .returned (.agg (nums .u8 (outF (sumF K hs xs k (padF (padT k) ((n : Int) * 8))))).toArray) ∧ w'.cell? ⟨D, 74, none⟩ = some (.bool false) ∧ w.grownBy w' (some D) := by
  obtain ⟨t, ht⟩ : ∃ t, t = padT k := ⟨_, rfl⟩
  rw [← ht]
  have hk64 : k < 64 := by omega
  have htb : 0 < t ∧ t ≤ 64 := by rw [ht]; unfold padT; split <;> omega
  obtain ⟨ht0, ht64⟩ := htb
  have hkr : (n : Int) % 64 = (k : Int) := by omega
  have HD := Aside0.mk hD
  have HK := Aside0.mk hK
  have HX8 := Aside0.mk hx8
  have HW := Aside0.mk hw
  have HD4 := Aside0.mk hD4
  have HTK := Aside0.mk ht
  have hu99 := Tryd.underlying99
  have ht72 : ¬ t = 72 := by omega
  have hz8 : 0 ≤ (t : Int) + 8 := by omega
  have hz9 : (t : Int) + 8 ≤ 72 := by omega
  have hz7 : (t : Int) ≤ 64 := by omega
  have hzn : ((t : Int) + 8).toNat = t + 8 := by omega
  have hnt0 : ¬ 72 = t := by omega
  clear hD hK hkn hx8 hw hD4 ht
  by_cases h56 : k < 56
  all_goals
    first
      | have hti : 56 - (k : Int) = (t : Int) := by have := HTK.out; rw [padT, if_pos h56] at this; omega
      | have hti : 120 - (k : Int) = (t : Int) := by have := HTK.out; rw [padT, if_neg h56] at this; omega
    go_enter Tryd.func87, Tryd.ntmps87
    go_wp2_with (first
      | ((with_reducible refine gate_dst (N := 2) rfl ?_); refine alloc_known rfl 2 rfl 74 rfl _ zero74 ?_; intro G2 hG2 w1 hb2 hB2; have c73 := (HD.out.below hB2).cell_len; have HR2 := Aside0.mk (Row8.start hb2); have HG2 := Aside0.mk hG2; have HB2 := Aside0.mk hB2; clear hG2 hb2 hB2)
      | ((with_reducible refine gate_dst (N := 4) rfl ?_); refine alloc_known rfl 4 rfl 126 rfl _ zero126 ?_; intro T hT w2 hb4 hB4; have cT := (Row8.start hb4).zero 0 (Nat.le_refl _) (by decide); have fT := (Row8.start hb4).free 0; have HR4 := Aside0.mk (Row8.start hb4); have HT := Aside0.mk hT; have HB4 := Aside0.mk hB4; clear hT hb4 hB4))
    have hDl : D < w.heap.size := blk_lt HD.out.blk
    have hTD : T ≠ D := by have := HT.out; have := HB2.out.size; omega
    have hr3 := (HR4.out.put (by decide) 128).zeros (t - 1) (by simp; omega)
    obtain ⟨w3, hw3⟩ : ∃ w3, w3 = w2.setCell ⟨T, 0, none⟩ (.int .u8 128) := ⟨_, rfl⟩
    have hR3 : Row8 126 w3 T 72 ([] ++ [128] ++ List.replicate (t - 1) 0) := by rw [hw3]; exact hr3
    have hb3 : Below w.heap.size w w2 := below_step HB2.out HB4.out
    have hg3 : w.grownBy w3 none := by rw [hw3]; exact grown_fresh (row := none) ((grown_of_below hb3 _).trans (grown_put _ T _ _)) (by have := HT.out; have := HB2.out.size; omega)
    have HR3 := Aside0.mk hR3
    have HG3 := Aside0.mk hg3
    have HGT : Aside0 (some G2 ≠ some T) := Aside0.mk (by intro e; have e : G2 = T := Option.some.inj e; have := HT.out; have := blk_lt HR2.out.2; omega)
    have HGD : Aside0 (some G2 ≠ some D) := Aside0.mk (by intro e; have e : G2 = D := Option.some.inj e; have := HG2.out; omega)
    have HR2a : Aside0 (Row8 74 w3 G2 32 []) := Aside0.mk (by rw [hw3]; exact (HR2.out.below HB4.out).grown (grown_put _ T _ _) HGT.out)
    have HTD := Aside0.mk hTD
    have HDL := Aside0.mk hDl
    rw [← hw3]
    clear hw3 hr3 hR3 hb3 hg3 hTD hDl cT fT c73
    (with_reducible refine (fd_put64c 126 T 72 t _ ((n : Int) * 8) _ HR3.out (by simp; omega) (by omega) (by omega) 8 (72 - t) (by decide)).mono ?_)
    rintro e w4 ⟨rfl, hR, hg⟩
    have HG4 := Aside0.mk (grown_step HG3.out hg (by have := HT.out; have := HB2.out.size; omega))
    have HR5 := Aside0.mk hR
    have HR2b := Aside0.mk (HR2a.out.grown hg HGT.out)
    clear hR hg
    have hDg4 := HD.out.grown HG4.out (by simp)
    have hTl : T < w4.heap.size := blk_lt HR5.out.2
    (have HC := Aside0.mk (write_pad D T k (t + 8) hs xs (padF t ((n : Int) * 8)) K n w4 hDg4 (HK.out.grown HG4.out (by simp)) hk64 (by rw [HTK.out]) (padF_length t _ ht0) HX8.out (B8.padF t _) (by omega) (fun e => HTD.out e.symm) HD4.out hTl (fun j hj => HR5.out.at j (by rw [← padF_length t ((n : Int) * 8) ht0] at hj; exact hj))))
    clear hDg4 hTl
    go_wp2_with fail
    (with_reducible refine HC.out.mono ?_)
    rintro e w5 ⟨rfl, ⟨xs5, len5, hD5⟩, hg5⟩
    have hws : W32 (sumF K hs xs k (padF t ((n : Int) * 8))) := W32.sumF HW.out
    obtain ⟨v0, v1, v2, v3, v4, v5, v6, v7, hv⟩ := eight _ hD5.h8
    rw [hv] at hD5 hws
    have HV := Aside0.mk hv
    have b0 := hws v0 (by simp)
    have b1 := hws v1 (by simp)
    have b2 := hws v2 (by simp)
    have b3 := hws v3 (by simp)
    have b4 := hws v4 (by simp)
    have b5 := hws v5 (by simp)
    have b6 := hws v6 (by simp)
    have b7 := hws v7 (by simp)
    have HB0 := Aside0.mk b0
    have HB1 := Aside0.mk b1
    have HB2' := Aside0.mk b2
    have HB3 := Aside0.mk b3
    have HB4' := Aside0.mk b4
    have HB5 := Aside0.mk b5
    have HB6 := Aside0.mk b6
    have HB7b := Aside0.mk b7
    have HD5 := Aside0.mk hD5
    have HG5 := Aside0.mk ((grown_any HG4.out (some D)).trans hg5)
    have HS5 := Aside0.mk hg5.size
    have HR2c := Aside0.mk (HR2b.out.grown hg5 HGD.out)
    clear hv hws b0 b1 b2 b3 b4 b5 b6 b7 hD5 hg5 HC
    have c72 := HD5.out.cell_nx
    go_wp2_with ((with_reducible refine gate_dst (N := 7) rfl ?_); refine alloc_known rfl 7 rfl 74 rfl _ zero74 ?_; intro G7 hG7 w6 hb7 hB7; have HR7 := Aside0.mk (Row8.start hb7); have HG7 := Aside0.mk hG7; have HB7 := Aside0.mk hB7; clear hG7 hb7 hB7)
    have HD6 := Aside0.mk (HD5.out.below HB7.out)
    have HG6 := Aside0.mk (HG5.out.trans (grown_of_below HB7.out _))
    have HS6 := Aside0.mk HB7.out.size
    have HGG : Aside0 (some G2 ≠ some G7) := Aside0.mk (by intro e; have e : G2 = G7 := Option.some.inj e; have := HG7.out; have := blk_lt HR2c.out.2; omega)
    have HQ2_0 := Aside0.mk (HR2c.out.below HB7.out)
    clear c72
    have c0 := HD6.out.cell_h 0 (by decide)
    have c1 := HD6.out.cell_h 1 (by decide)
    have c2 := HD6.out.cell_h 2 (by decide)
    have c3 := HD6.out.cell_h 3 (by decide)
    have c4 := HD6.out.cell_h 4 (by decide)
    have c5 := HD6.out.cell_h 5 (by decide)
    have c6 := HD6.out.cell_h 6 (by decide)
    have c7 := HD6.out.cell_h 7 (by decide)
    have c74 := HD6.out.cell_224
    have hDG : D ≠ G7 := by have := HG7.out; have := HD5.out; have := blk_lt HD5.out.blk; omega
    have HDG := Aside0.mk hDG
    clear hDG
    have HR7_0 := HR7
    have HD7_0 := HD6
    have HG7_0 := HG6
    clear HR7 HD6 HG6
    go_still_tail 6, (by kernel_rfl)
    change wpList _ _ _ _ _ w6.drew
    go_wp2_with fail
    (with_reducible refine (fd_put32 74 G7 32 0 _ v0 _ HR7_0.out.drew rfl (by decide) HB0.out 32 rfl).mono ?_)
    rintro e z1 ⟨rfl, hR, hg⟩
    have HR7_1 := Aside0.mk hR
    have hgd := (grown_drew w6 (some G7)).trans hg
    have HQ2_1 := Aside0.mk (HQ2_0.out.grown hgd HGG.out)
    have HD7_1 := Aside0.mk (HD7_0.out.grown hgd (by intro e; exact HDG.out (Option.some.inj e)))
    have HG7_1 := Aside0.mk (World.grownBy.andThen' HG7_0.out hgd (by have := HG7.out; have := HG5.out.size; omega))
    clear hR hg hgd c0 c1 c2 c3 c4 c5 c6 c7 c74 HR7_0 HD7_0 HG7_0
    have c0 := HD7_1.out.cell_h 0 (by decide)
    have c1 := HD7_1.out.cell_h 1 (by decide)
    have c2 := HD7_1.out.cell_h 2 (by decide)
    have c3 := HD7_1.out.cell_h 3 (by decide)
    have c4 := HD7_1.out.cell_h 4 (by decide)
    have c5 := HD7_1.out.cell_h 5 (by decide)
    have c6 := HD7_1.out.cell_h 6 (by decide)
    have c7 := HD7_1.out.cell_h 7 (by decide)
    have c74 := HD7_1.out.cell_224
    go_wp2_with fail
    go_still_tail 6, (by kernel_rfl)
    change wpList _ _ _ _ _ z1.drew
    go_wp2_with fail
    (with_reducible refine (fd_put32 74 G7 32 4 _ v1 _ HR7_1.out.drew rfl (by decide) HB1.out 28 rfl).mono ?_)
    rintro e z2 ⟨rfl, hR, hg⟩
    have HR7_2 := Aside0.mk hR
    have hgd := (grown_drew z1 (some G7)).trans hg
    have HQ2_2 := Aside0.mk (HQ2_1.out.grown hgd HGG.out)
    have HD7_2 := Aside0.mk (HD7_1.out.grown hgd (by intro e; exact HDG.out (Option.some.inj e)))
    have HG7_2 := Aside0.mk (World.grownBy.andThen' HG7_1.out hgd (by have := HG7.out; have := HG5.out.size; omega))
    clear hR hg hgd c0 c1 c2 c3 c4 c5 c6 c7 c74 HR7_1 HD7_1 HG7_1
    have c0 := HD7_2.out.cell_h 0 (by decide)
    have c1 := HD7_2.out.cell_h 1 (by decide)
    have c2 := HD7_2.out.cell_h 2 (by decide)
    have c3 := HD7_2.out.cell_h 3 (by decide)
    have c4 := HD7_2.out.cell_h 4 (by decide)
    have c5 := HD7_2.out.cell_h 5 (by decide)
    have c6 := HD7_2.out.cell_h 6 (by decide)
    have c7 := HD7_2.out.cell_h 7 (by decide)
    have c74 := HD7_2.out.cell_224
    go_wp2_with fail
    go_still_tail 6, (by kernel_rfl)
    change wpList _ _ _ _ _ z2.drew
    go_wp2_with fail
    (with_reducible refine (fd_put32 74 G7 32 8 _ v2 _ HR7_2.out.drew rfl (by decide) HB2'.out 24 rfl).mono ?_)
    rintro e z3 ⟨rfl, hR, hg⟩
    have HR7_3 := Aside0.mk hR
    have hgd := (grown_drew z2 (some G7)).trans hg
    have HQ2_3 := Aside0.mk (HQ2_2.out.grown hgd HGG.out)
    have HD7_3 := Aside0.mk (HD7_2.out.grown hgd (by intro e; exact HDG.out (Option.some.inj e)))
    have HG7_3 := Aside0.mk (World.grownBy.andThen' HG7_2.out hgd (by have := HG7.out; have := HG5.out.size; omega))
    clear hR hg hgd c0 c1 c2 c3 c4 c5 c6 c7 c74 HR7_2 HD7_2 HG7_2
    have c0 := HD7_3.out.cell_h 0 (by decide)
    have c1 := HD7_3.out.cell_h 1 (by decide)
    have c2 := HD7_3.out.cell_h 2 (by decide)
    have c3 := HD7_3.out.cell_h 3 (by decide)
    have c4 := HD7_3.out.cell_h 4 (by decide)
    have c5 := HD7_3.out.cell_h 5 (by decide)
    have c6 := HD7_3.out.cell_h 6 (by decide)
    have c7 := HD7_3.out.cell_h 7 (by decide)
    have c74 := HD7_3.out.cell_224
    go_wp2_with fail
    go_still_tail 6, (by kernel_rfl)
    change wpList _ _ _ _ _ z3.drew
    go_wp2_with fail
    (with_reducible refine (fd_put32 74 G7 32 12 _ v3 _ HR7_3.out.drew rfl (by decide) HB3.out 20 rfl).mono ?_)
    rintro e z4 ⟨rfl, hR, hg⟩
    have HR7_4 := Aside0.mk hR
    have hgd := (grown_drew z3 (some G7)).trans hg
    have HQ2_4 := Aside0.mk (HQ2_3.out.grown hgd HGG.out)
    have HD7_4 := Aside0.mk (HD7_3.out.grown hgd (by intro e; exact HDG.out (Option.some.inj e)))
    have HG7_4 := Aside0.mk (World.grownBy.andThen' HG7_3.out hgd (by have := HG7.out; have := HG5.out.size; omega))
    clear hR hg hgd c0 c1 c2 c3 c4 c5 c6 c7 c74 HR7_3 HD7_3 HG7_3
    have c0 := HD7_4.out.cell_h 0 (by decide)
    have c1 := HD7_4.out.cell_h 1 (by decide)
    have c2 := HD7_4.out.cell_h 2 (by decide)
    have c3 := HD7_4.out.cell_h 3 (by decide)
    have c4 := HD7_4.out.cell_h 4 (by decide)
    have c5 := HD7_4.out.cell_h 5 (by decide)
    have c6 := HD7_4.out.cell_h 6 (by decide)
    have c7 := HD7_4.out.cell_h 7 (by decide)
    have c74 := HD7_4.out.cell_224
    go_wp2_with fail
    go_still_tail 6, (by kernel_rfl)
    change wpList _ _ _ _ _ z4.drew
    go_wp2_with fail
    (with_reducible refine (fd_put32 74 G7 32 16 _ v4 _ HR7_4.out.drew rfl (by decide) HB4'.out 16 rfl).mono ?_)
    rintro e z5 ⟨rfl, hR, hg⟩
    have HR7_5 := Aside0.mk hR
    have hgd := (grown_drew z4 (some G7)).trans hg
    have HQ2_5 := Aside0.mk (HQ2_4.out.grown hgd HGG.out)
    have HD7_5 := Aside0.mk (HD7_4.out.grown hgd (by intro e; exact HDG.out (Option.some.inj e)))
    have HG7_5 := Aside0.mk (World.grownBy.andThen' HG7_4.out hgd (by have := HG7.out; have := HG5.out.size; omega))
    clear hR hg hgd c0 c1 c2 c3 c4 c5 c6 c7 c74 HR7_4 HD7_4 HG7_4
    have c0 := HD7_5.out.cell_h 0 (by decide)
    have c1 := HD7_5.out.cell_h 1 (by decide)
    have c2 := HD7_5.out.cell_h 2 (by decide)
    have c3 := HD7_5.out.cell_h 3 (by decide)
    have c4 := HD7_5.out.cell_h 4 (by decide)
    have c5 := HD7_5.out.cell_h 5 (by decide)
    have c6 := HD7_5.out.cell_h 6 (by decide)
    have c7 := HD7_5.out.cell_h 7 (by decide)
    have c74 := HD7_5.out.cell_224
    go_wp2_with fail
    go_still_tail 6, (by kernel_rfl)
    change wpList _ _ _ _ _ z5.drew
    go_wp2_with fail
    (with_reducible refine (fd_put32 74 G7 32 20 _ v5 _ HR7_5.out.drew rfl (by decide) HB5.out 12 rfl).mono ?_)
    rintro e z6 ⟨rfl, hR, hg⟩
    have HR7_6 := Aside0.mk hR
    have hgd := (grown_drew z5 (some G7)).trans hg
    have HQ2_6 := Aside0.mk (HQ2_5.out.grown hgd HGG.out)
    have HD7_6 := Aside0.mk (HD7_5.out.grown hgd (by intro e; exact HDG.out (Option.some.inj e)))
    have HG7_6 := Aside0.mk (World.grownBy.andThen' HG7_5.out hgd (by have := HG7.out; have := HG5.out.size; omega))
    clear hR hg hgd c0 c1 c2 c3 c4 c5 c6 c7 c74 HR7_5 HD7_5 HG7_5
    have c0 := HD7_6.out.cell_h 0 (by decide)
    have c1 := HD7_6.out.cell_h 1 (by decide)
    have c2 := HD7_6.out.cell_h 2 (by decide)
    have c3 := HD7_6.out.cell_h 3 (by decide)
    have c4 := HD7_6.out.cell_h 4 (by decide)
    have c5 := HD7_6.out.cell_h 5 (by decide)
    have c6 := HD7_6.out.cell_h 6 (by decide)
    have c7 := HD7_6.out.cell_h 7 (by decide)
    have c74 := HD7_6.out.cell_224
    go_wp2_with fail
    go_still_tail 6, (by kernel_rfl)
    change wpList _ _ _ _ _ z6.drew
    go_wp2_with fail
    (with_reducible refine (fd_put32 74 G7 32 24 _ v6 _ HR7_6.out.drew rfl (by decide) HB6.out 8 rfl).mono ?_)
    rintro e z7 ⟨rfl, hR, hg⟩
    have HR7_7 := Aside0.mk hR
    have hgd := (grown_drew z6 (some G7)).trans hg
    have HQ2_7 := Aside0.mk (HQ2_6.out.grown hgd HGG.out)
    have HD7_7 := Aside0.mk (HD7_6.out.grown hgd (by intro e; exact HDG.out (Option.some.inj e)))
    have HG7_7 := Aside0.mk (World.grownBy.andThen' HG7_6.out hgd (by have := HG7.out; have := HG5.out.size; omega))
    clear hR hg hgd c0 c1 c2 c3 c4 c5 c6 c7 c74 HR7_6 HD7_6 HG7_6
    have c0 := HD7_7.out.cell_h 0 (by decide)
    have c1 := HD7_7.out.cell_h 1 (by decide)
    have c2 := HD7_7.out.cell_h 2 (by decide)
    have c3 := HD7_7.out.cell_h 3 (by decide)
    have c4 := HD7_7.out.cell_h 4 (by decide)
    have c5 := HD7_7.out.cell_h 5 (by decide)
    have c6 := HD7_7.out.cell_h 6 (by decide)
    have c7 := HD7_7.out.cell_h 7 (by decide)
    have c74 := HD7_7.out.cell_224
    go_wp2_with fail
    go_wp2_with fail
    go_still_tail 6, (by kernel_rfl)
    change wpList _ _ _ _ _ z7.drew
    go_wp2_with fail
    (with_reducible refine (fd_put32 74 G7 32 28 _ v7 _ HR7_7.out.drew rfl (by decide) HB7b.out 4 rfl).mono ?_)
    rintro e z8 ⟨rfl, hR, hg⟩
    have HR7_8 := Aside0.mk hR
    have hgd := (grown_drew z7 (some G7)).trans hg
    have HQ2_8 := Aside0.mk (HQ2_7.out.grown hgd HGG.out)
    have HD7_8 := Aside0.mk (HD7_7.out.grown hgd (by intro e; exact HDG.out (Option.some.inj e)))
    have HG7_8 := Aside0.mk (World.grownBy.andThen' HG7_7.out hgd (by have := HG7.out; have := HG5.out.size; omega))
    clear hR hg hgd c0 c1 c2 c3 c4 c5 c6 c7 HR7_7 HD7_7 HG7_7
    obtain ⟨cs, hcs⟩ : ∃ cs : Array Value, cs = (nums .u8 (outF [v0, v1, v2, v3, v4, v5, v6, v7])).toArray := ⟨_, rfl⟩
    have hsz : cs.size = 32 := by rw [hcs, List.size_toArray, nums_len, outF_length]
    have hB7 : z8.heap[G7]? = some (.cells cs 74 (0, 0)) := by rw [hcs]; exact HR7_8.out.full rfl
    have hi74 : (Tryd.prog.info? 74).map (·.size) = some cs.size := by rw [hsz]; exact info74
    have h1c : ∀ q ∈ cs.toList, q.oneCell' = true := by rw [hcs]; exact one_nums _
    have HCS := Aside0.mk hcs
    have HSZ := Aside0.mk hsz
    have HBB := Aside0.mk hB7
    have HI74 := Aside0.mk hi74
    have H1C := Aside0.mk h1c
    clear hcs hsz hB7 hi74 h1c
    go_wp2_with (first
      | ((with_reducible refine gate_dst (N := 103) rfl ?_); refine wpList_load_row rfl 74 (.tmp 7) rfl G7 rfl 74 cs (0, 0) _ HBB.out Tryd.underlying74 rfl HI74.out ?_)
      | ((with_reducible refine gate_store (t := 74) (p := 2) rfl ?_); refine stop_here ?_))
    unfold Stopped
    (refine store_all rfl rfl 74 (.tmp 2) (.tmp 103) rfl G2 _ 74 (.agg cs) cs.toList rfl rfl rfl (by rw [Array.length_toList]; exact HI74.out) H1C.out HQ2_8.out.2 (by have h := HSZ.out; simp [nums, h]) ?_; intro z9 hb9 hg9; have HB9 := Aside0.mk hb9; have HG9 := Aside0.mk hg9; clear hb9 hg9)
    go_wp2
    have hfin : z9.heap[G2]? = some (.cells cs 74 (0, 0)) := by rw [HB9.out]
    refine bodyPost_ret (v := .agg cs) (results_cell_row rfl _ _ G2 74 cs (0, 0) _ rfl hfin Tryd.underlying74 rfl HI74.out) rfl ⟨?_, ?_, ?_⟩
    · rw [HV.out, HCS.out]
    · exact (HD7_8.out.grown HG9.out (fun e => HGD.out e.symm)).cell_224
    · exact World.grownBy.andThen' HG7_8.out HG9.out (Nat.le_of_eq HG2.out.symm)
end Go.Proofs.YtodofpjdcongnaaDoor.Sign

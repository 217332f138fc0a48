/- The put methods of the three headers: their fields, one behind the other. -/
import Derived.Test.YtodofpjdcongnaaDoorSignA
namespace Go.Proofs.YtodofpjdcongnaaDoor.Sign
open Go.RowKit Go.Proofs.YtodofpjdcongnaaDoorW.PrintWords
set_option linter.unusedSimpArgs false

set_option maxHeartbeats 8000000 in
set_option maxRecDepth 100000 in
theorem sb_put (G N p b : Nat) (pre : List Int) (a0 a1 a2 : Int) (v : Value) (w : World) (h : St w G N pre) (hp : pre.length = p) (h4 : p + 12 ≤ N) (hb : w.heap[b]? = some (.cells #[.int .u32 a0, .int .u32 a1, .int .u32 a2] 61 (0, 0))) (x0 : 0 ≤ a0 ∧ a0 < 4294967296) (x1 : 0 ≤ a1 ∧ a1 < 4294967296) (x2 : 0 ≤ a2 ∧ a2 < 4294967296) (hv : Rest G N p v) :
    Calls Tryd.prog 33 #[.pointer (some ⟨b, 0, none⟩), v] w fun e w' => (∃ v', e = .returned v' ∧ Rest G N (p + 12) v') ∧ St w' G N (pre ++ (be32 a0 ++ (be32 a1 ++ (be32 a2)))) ∧ w.grownBy w' (some G) := by
  have hne : some b ≠ some G := fun e => by injection e with e; exact blk_ne hb h.2 (by decide) e
  have c0 : w.cell? ⟨b, 0, none⟩ = some (.int .u32 a0) := (blk_cell hb 0).trans rfl
  have H0 := Aside0.mk h
  have P0 := Aside0.mk hp
  have B0 := Aside0.mk hb
  have R0 := Aside0.mk hv
  have GR0 := Aside0.mk (World.grownBy.refl w (some G))
  have X0 := Aside0.mk x0
  have X1 := Aside0.mk x1
  have X2 := Aside0.mk x2
  clear h hp hb hv x0 x1 x2
  go_enter Tryd.func33, Tryd.ntmps33
  go_wp2_with fail
  (with_reducible refine (put32 G N p pre a0 _ _ H0.out P0.out (by omega) X0.out R0.out).mono ?_)
  rintro e w1 ⟨⟨v1, rfl, r1⟩, h1, g1⟩
  obtain ⟨q1, e1⟩ : ∃ q, q = pre ++ be32 a0 := ⟨_, rfl⟩
  rw [← e1] at h1
  have P1 : Aside0 (q1.length = p + 4) := Aside0.mk (by rw [e1, List.length_append, P0.out]; rfl)
  have H1 := Aside0.mk h1
  have R1 : Aside0 (Rest G N (p + 4) v1) := Aside0.mk r1
  have B1 := Aside0.mk (blk_grown B0.out g1 hne)
  have GR1 := Aside0.mk (GR0.out.trans g1)
  have E1 := Aside0.mk e1
  have c1 : w1.cell? ⟨b, 1, none⟩ = some (.int .u32 a1) := (blk_cell B1.out 1).trans rfl
  obtain ⟨o1, ho1, rfl⟩ := r1
  clear c0 h1 g1 e1 ho1
  go_wp2_with fail
  (with_reducible refine (put32 G N (p + 4) q1 a1 _ _ H1.out P1.out (by omega) X1.out R1.out).mono ?_)
  rintro e w2 ⟨⟨v2, rfl, r2⟩, h2, g2⟩
  obtain ⟨q2, e2⟩ : ∃ q, q = q1 ++ be32 a1 := ⟨_, rfl⟩
  rw [← e2] at h2
  have P2 : Aside0 (q2.length = p + 8) := Aside0.mk (by rw [e2, List.length_append, P1.out]; rfl)
  have H2 := Aside0.mk h2
  have R2 : Aside0 (Rest G N (p + 8) v2) := Aside0.mk r2
  have B2 := Aside0.mk (blk_grown B1.out g2 hne)
  have GR2 := Aside0.mk (GR1.out.trans g2)
  have E2 := Aside0.mk e2
  have c2 : w2.cell? ⟨b, 2, none⟩ = some (.int .u32 a2) := (blk_cell B2.out 2).trans rfl
  obtain ⟨o2, ho2, rfl⟩ := r2
  clear c1 h2 g2 e2 ho2
  go_wp2_with fail
  (with_reducible refine (put32 G N (p + 8) q2 a2 _ _ H2.out P2.out (by omega) X2.out R2.out).mono ?_)
  rintro e w3 ⟨⟨v3, rfl, r3⟩, h3, g3⟩
  obtain ⟨q3, e3⟩ : ∃ q, q = q2 ++ be32 a2 := ⟨_, rfl⟩
  rw [← e3] at h3
  have P3 : Aside0 (q3.length = p + 12) := Aside0.mk (by rw [e3, List.length_append, P2.out]; rfl)
  have H3 := Aside0.mk h3
  have R3 : Aside0 (Rest G N (p + 12) v3) := Aside0.mk r3
  have B3 := Aside0.mk (blk_grown B2.out g3 hne)
  have GR3 := Aside0.mk (GR2.out.trans g3)
  have E3 := Aside0.mk e3
  obtain ⟨o3, ho3, rfl⟩ := r3
  clear c2 h3 g3 e3 ho3
  go_wp2_with fail
  go_ret
  refine ⟨⟨_, rfl, R3.out⟩, ?_, GR3.out⟩
  have h := H3.out
  rw [E3.out, E2.out, E1.out] at h
  simp only [List.append_assoc, List.cons_append, List.nil_append] at h ⊢
  exact h

set_option maxHeartbeats 8000000 in
set_option maxRecDepth 100000 in
theorem blob_put (G N p b : Nat) (pre : List Int) (a0 a1 : Int) (v : Value) (w : World) (h : St w G N pre) (hp : pre.length = p) (h4 : p + 8 ≤ N) (hb : w.heap[b]? = some (.cells #[.int .u32 a0, .int .u32 a1] 63 (0, 0))) (x0 : 0 ≤ a0 ∧ a0 < 4294967296) (x1 : 0 ≤ a1 ∧ a1 < 4294967296) (hv : Rest G N p v) :
    Calls Tryd.prog 34 #[.pointer (some ⟨b, 0, none⟩), v] w fun e w' => (∃ v', e = .returned v' ∧ Rest G N (p + 8) v') ∧ St w' G N (pre ++ (be32 a0 ++ (be32 a1))) ∧ w.grownBy w' (some G) := by
  have hne : some b ≠ some G := fun e => by injection e with e; exact blk_ne hb h.2 (by decide) e
  have c0 : w.cell? ⟨b, 0, none⟩ = some (.int .u32 a0) := (blk_cell hb 0).trans rfl
  have H0 := Aside0.mk h
  have P0 := Aside0.mk hp
  have B0 := Aside0.mk hb
  have R0 := Aside0.mk hv
  have GR0 := Aside0.mk (World.grownBy.refl w (some G))
  have X0 := Aside0.mk x0
  have X1 := Aside0.mk x1
  clear h hp hb hv x0 x1
  go_enter Tryd.func34, Tryd.ntmps34
  go_wp2_with fail
  (with_reducible refine (put32 G N p pre a0 _ _ H0.out P0.out (by omega) X0.out R0.out).mono ?_)
  rintro e w1 ⟨⟨v1, rfl, r1⟩, h1, g1⟩
  obtain ⟨q1, e1⟩ : ∃ q, q = pre ++ be32 a0 := ⟨_, rfl⟩
  rw [← e1] at h1
  have P1 : Aside0 (q1.length = p + 4) := Aside0.mk (by rw [e1, List.length_append, P0.out]; rfl)
  have H1 := Aside0.mk h1
  have R1 : Aside0 (Rest G N (p + 4) v1) := Aside0.mk r1
  have B1 := Aside0.mk (blk_grown B0.out g1 hne)
  have GR1 := Aside0.mk (GR0.out.trans g1)
  have E1 := Aside0.mk e1
  have c1 : w1.cell? ⟨b, 1, none⟩ = some (.int .u32 a1) := (blk_cell B1.out 1).trans rfl
  obtain ⟨o1, ho1, rfl⟩ := r1
  clear c0 h1 g1 e1 ho1
  go_wp2_with fail
  (with_reducible refine (put32 G N (p + 4) q1 a1 _ _ H1.out P1.out (by omega) X1.out R1.out).mono ?_)
  rintro e w2 ⟨⟨v2, rfl, r2⟩, h2, g2⟩
  obtain ⟨q2, e2⟩ : ∃ q, q = q1 ++ be32 a1 := ⟨_, rfl⟩
  rw [← e2] at h2
  have P2 : Aside0 (q2.length = p + 8) := Aside0.mk (by rw [e2, List.length_append, P1.out]; rfl)
  have H2 := Aside0.mk h2
  have R2 : Aside0 (Rest G N (p + 8) v2) := Aside0.mk r2
  have B2 := Aside0.mk (blk_grown B1.out g2 hne)
  have GR2 := Aside0.mk (GR1.out.trans g2)
  have E2 := Aside0.mk e2
  obtain ⟨o2, ho2, rfl⟩ := r2
  clear c1 h2 g2 e2 ho2
  go_wp2_with fail
  go_ret
  refine ⟨⟨_, rfl, R2.out⟩, ?_, GR2.out⟩
  have h := H2.out
  rw [E2.out, E1.out] at h
  simp only [List.append_assoc, List.cons_append, List.nil_append] at h ⊢
  exact h

set_option maxHeartbeats 8000000 in
set_option maxRecDepth 100000 in
theorem cd_put (G N p b : Nat) (pre : List Int) (a0 a1 a2 a3 a4 a5 a6 a7 a8 a9 a10 a11 a12 a13 a14 a15 a16 a17 a18 a19 a20 : Int) (v : Value) (w : World) (h : St w G N pre) (hp : pre.length = p) (h4 : p + 88 ≤ N) (hb : w.heap[b]? = some (.cells #[.int .u32 a0, .int .u32 a1, .int .u32 a2, .int .u32 a3, .int .u32 a4, .int .u32 a5, .int .u32 a6, .int .u32 a7, .int .u32 a8, .int .u8 a9, .int .u8 a10, .int .u8 a11, .int .u8 a12, .int .u32 a13, .int .u32 a14, .int .u32 a15, .int .u32 a16, .int .u64 a17, .int .u64 a18, .int .u64 a19, .int .u64 a20] 65 (0, 0))) (x0 : 0 ≤ a0 ∧ a0 < 4294967296) (x1 : 0 ≤ a1 ∧ a1 < 4294967296) (x2 : 0 ≤ a2 ∧ a2 < 4294967296) (x3 : 0 ≤ a3 ∧ a3 < 4294967296) (x4 : 0 ≤ a4 ∧ a4 < 4294967296) (x5 : 0 ≤ a5 ∧ a5 < 4294967296) (x6 : 0 ≤ a6 ∧ a6 < 4294967296) (x7 : 0 ≤ a7 ∧ a7 < 4294967296) (x8 : 0 ≤ a8 ∧ a8 < 4294967296) (x13 : 0 ≤ a13 ∧ a13 < 4294967296) (x14 : 0 ≤ a14 ∧ a14 < 4294967296) (x15 : 0 ≤ a15 ∧ a15 < 4294967296) (x16 : 0 ≤ a16 ∧ a16 < 4294967296) (x17 : 0 ≤ a17 ∧ a17 < 18446744073709551616) (x18 : 0 ≤ a18 ∧ a18 < 18446744073709551616) (x19 : 0 ≤ a19 ∧ a19 < 18446744073709551616) (x20 : 0 ≤ a20 ∧ a20 < 18446744073709551616) (hv : Rest G N p v) :
    Calls Tryd.prog 35 #[.pointer (some ⟨b, 0, none⟩), v] w fun e w' => (∃ v', e = .returned v' ∧ Rest G N (p + 88) v') ∧ St w' G N (pre ++ (be32 a0 ++ (be32 a1 ++ (be32 a2 ++ (be32 a3 ++ (be32 a4 ++ (be32 a5 ++ (be32 a6 ++ (be32 a7 ++ (be32 a8 ++ ([a9] ++ ([a10] ++ ([a11] ++ ([a12] ++ (be32 a13 ++ (be32 a14 ++ (be32 a15 ++ (be32 a16 ++ (be64 a17 ++ (be64 a18 ++ (be64 a19 ++ (be64 a20)))))))))))))))))))))) ∧ w.grownBy w' (some G) := by
  have hne : some b ≠ some G := fun e => by injection e with e; exact blk_ne hb h.2 (by decide) e
  have c0 : w.cell? ⟨b, 0, none⟩ = some (.int .u32 a0) := (blk_cell hb 0).trans rfl
  have H0 := Aside0.mk h
  have P0 := Aside0.mk hp
  have B0 := Aside0.mk hb
  have R0 := Aside0.mk hv
  have GR0 := Aside0.mk (World.grownBy.refl w (some G))
  have X0 := Aside0.mk x0
  have X1 := Aside0.mk x1
  have X2 := Aside0.mk x2
  have X3 := Aside0.mk x3
  have X4 := Aside0.mk x4
  have X5 := Aside0.mk x5
  have X6 := Aside0.mk x6
  have X7 := Aside0.mk x7
  have X8 := Aside0.mk x8
  have X13 := Aside0.mk x13
  have X14 := Aside0.mk x14
  have X15 := Aside0.mk x15
  have X16 := Aside0.mk x16
  have X17 := Aside0.mk x17
  have X18 := Aside0.mk x18
  have X19 := Aside0.mk x19
  have X20 := Aside0.mk x20
  clear h hp hb hv x0 x1 x2 x3 x4 x5 x6 x7 x8 x13 x14 x15 x16 x17 x18 x19 x20
  go_enter Tryd.func35, Tryd.ntmps35
  go_wp2_with fail
  (with_reducible refine (put32 G N p pre a0 _ _ H0.out P0.out (by omega) X0.out R0.out).mono ?_)
  rintro e w1 ⟨⟨v1, rfl, r1⟩, h1, g1⟩
  obtain ⟨q1, e1⟩ : ∃ q, q = pre ++ be32 a0 := ⟨_, rfl⟩
  rw [← e1] at h1
  have P1 : Aside0 (q1.length = p + 4) := Aside0.mk (by rw [e1, List.length_append, P0.out]; rfl)
  have H1 := Aside0.mk h1
  have R1 : Aside0 (Rest G N (p + 4) v1) := Aside0.mk r1
  have B1 := Aside0.mk (blk_grown B0.out g1 hne)
  have GR1 := Aside0.mk (GR0.out.trans g1)
  have E1 := Aside0.mk e1
  have c1 : w1.cell? ⟨b, 1, none⟩ = some (.int .u32 a1) := (blk_cell B1.out 1).trans rfl
  obtain ⟨o1, ho1, rfl⟩ := r1
  clear c0 h1 g1 e1 ho1
  go_wp2_with fail
  (with_reducible refine (put32 G N (p + 4) q1 a1 _ _ H1.out P1.out (by omega) X1.out R1.out).mono ?_)
  rintro e w2 ⟨⟨v2, rfl, r2⟩, h2, g2⟩
  obtain ⟨q2, e2⟩ : ∃ q, q = q1 ++ be32 a1 := ⟨_, rfl⟩
  rw [← e2] at h2
  have P2 : Aside0 (q2.length = p + 8) := Aside0.mk (by rw [e2, List.length_append, P1.out]; rfl)
  have H2 := Aside0.mk h2
  have R2 : Aside0 (Rest G N (p + 8) v2) := Aside0.mk r2
  have B2 := Aside0.mk (blk_grown B1.out g2 hne)
  have GR2 := Aside0.mk (GR1.out.trans g2)
  have E2 := Aside0.mk e2
  have c2 : w2.cell? ⟨b, 2, none⟩ = some (.int .u32 a2) := (blk_cell B2.out 2).trans rfl
  obtain ⟨o2, ho2, rfl⟩ := r2
  clear c1 h2 g2 e2 ho2
  go_wp2_with fail
  (with_reducible refine (put32 G N (p + 8) q2 a2 _ _ H2.out P2.out (by omega) X2.out R2.out).mono ?_)
  rintro e w3 ⟨⟨v3, rfl, r3⟩, h3, g3⟩
  obtain ⟨q3, e3⟩ : ∃ q, q = q2 ++ be32 a2 := ⟨_, rfl⟩
  rw [← e3] at h3
  have P3 : Aside0 (q3.length = p + 12) := Aside0.mk (by rw [e3, List.length_append, P2.out]; rfl)
  have H3 := Aside0.mk h3
  have R3 : Aside0 (Rest G N (p + 12) v3) := Aside0.mk r3
  have B3 := Aside0.mk (blk_grown B2.out g3 hne)
  have GR3 := Aside0.mk (GR2.out.trans g3)
  have E3 := Aside0.mk e3
  have c3 : w3.cell? ⟨b, 3, none⟩ = some (.int .u32 a3) := (blk_cell B3.out 3).trans rfl
  obtain ⟨o3, ho3, rfl⟩ := r3
  clear c2 h3 g3 e3 ho3
  go_wp2_with fail
  (with_reducible refine (put32 G N (p + 12) q3 a3 _ _ H3.out P3.out (by omega) X3.out R3.out).mono ?_)
  rintro e w4 ⟨⟨v4, rfl, r4⟩, h4, g4⟩
  obtain ⟨q4, e4⟩ : ∃ q, q = q3 ++ be32 a3 := ⟨_, rfl⟩
  rw [← e4] at h4
  have P4 : Aside0 (q4.length = p + 16) := Aside0.mk (by rw [e4, List.length_append, P3.out]; rfl)
  have H4 := Aside0.mk h4
  have R4 : Aside0 (Rest G N (p + 16) v4) := Aside0.mk r4
  have B4 := Aside0.mk (blk_grown B3.out g4 hne)
  have GR4 := Aside0.mk (GR3.out.trans g4)
  have E4 := Aside0.mk e4
  have c4 : w4.cell? ⟨b, 4, none⟩ = some (.int .u32 a4) := (blk_cell B4.out 4).trans rfl
  obtain ⟨o4, ho4, rfl⟩ := r4
  clear c3 h4 g4 e4 ho4
  go_wp2_with fail
  (with_reducible refine (put32 G N (p + 16) q4 a4 _ _ H4.out P4.out (by omega) X4.out R4.out).mono ?_)
  rintro e w5 ⟨⟨v5, rfl, r5⟩, h5, g5⟩
  obtain ⟨q5, e5⟩ : ∃ q, q = q4 ++ be32 a4 := ⟨_, rfl⟩
  rw [← e5] at h5
  have P5 : Aside0 (q5.length = p + 20) := Aside0.mk (by rw [e5, List.length_append, P4.out]; rfl)
  have H5 := Aside0.mk h5
  have R5 : Aside0 (Rest G N (p + 20) v5) := Aside0.mk r5
  have B5 := Aside0.mk (blk_grown B4.out g5 hne)
  have GR5 := Aside0.mk (GR4.out.trans g5)
  have E5 := Aside0.mk e5
  have c5 : w5.cell? ⟨b, 5, none⟩ = some (.int .u32 a5) := (blk_cell B5.out 5).trans rfl
  obtain ⟨o5, ho5, rfl⟩ := r5
  clear c4 h5 g5 e5 ho5
  go_wp2_with fail
  (with_reducible refine (put32 G N (p + 20) q5 a5 _ _ H5.out P5.out (by omega) X5.out R5.out).mono ?_)
  rintro e w6 ⟨⟨v6, rfl, r6⟩, h6, g6⟩
  obtain ⟨q6, e6⟩ : ∃ q, q = q5 ++ be32 a5 := ⟨_, rfl⟩
  rw [← e6] at h6
  have P6 : Aside0 (q6.length = p + 24) := Aside0.mk (by rw [e6, List.length_append, P5.out]; rfl)
  have H6 := Aside0.mk h6
  have R6 : Aside0 (Rest G N (p + 24) v6) := Aside0.mk r6
  have B6 := Aside0.mk (blk_grown B5.out g6 hne)
  have GR6 := Aside0.mk (GR5.out.trans g6)
  have E6 := Aside0.mk e6
  have c6 : w6.cell? ⟨b, 6, none⟩ = some (.int .u32 a6) := (blk_cell B6.out 6).trans rfl
  obtain ⟨o6, ho6, rfl⟩ := r6
  clear c5 h6 g6 e6 ho6
  go_wp2_with fail
  (with_reducible refine (put32 G N (p + 24) q6 a6 _ _ H6.out P6.out (by omega) X6.out R6.out).mono ?_)
  rintro e w7 ⟨⟨v7, rfl, r7⟩, h7, g7⟩
  obtain ⟨q7, e7⟩ : ∃ q, q = q6 ++ be32 a6 := ⟨_, rfl⟩
  rw [← e7] at h7
  have P7 : Aside0 (q7.length = p + 28) := Aside0.mk (by rw [e7, List.length_append, P6.out]; rfl)
  have H7 := Aside0.mk h7
  have R7 : Aside0 (Rest G N (p + 28) v7) := Aside0.mk r7
  have B7 := Aside0.mk (blk_grown B6.out g7 hne)
  have GR7 := Aside0.mk (GR6.out.trans g7)
  have E7 := Aside0.mk e7
  have c7 : w7.cell? ⟨b, 7, none⟩ = some (.int .u32 a7) := (blk_cell B7.out 7).trans rfl
  obtain ⟨o7, ho7, rfl⟩ := r7
  clear c6 h7 g7 e7 ho7
  go_wp2_with fail
  (with_reducible refine (put32 G N (p + 28) q7 a7 _ _ H7.out P7.out (by omega) X7.out R7.out).mono ?_)
  rintro e w8 ⟨⟨v8, rfl, r8⟩, h8, g8⟩
  obtain ⟨q8, e8⟩ : ∃ q, q = q7 ++ be32 a7 := ⟨_, rfl⟩
  rw [← e8] at h8
  have P8 : Aside0 (q8.length = p + 32) := Aside0.mk (by rw [e8, List.length_append, P7.out]; rfl)
  have H8 := Aside0.mk h8
  have R8 : Aside0 (Rest G N (p + 32) v8) := Aside0.mk r8
  have B8 := Aside0.mk (blk_grown B7.out g8 hne)
  have GR8 := Aside0.mk (GR7.out.trans g8)
  have E8 := Aside0.mk e8
  have c8 : w8.cell? ⟨b, 8, none⟩ = some (.int .u32 a8) := (blk_cell B8.out 8).trans rfl
  obtain ⟨o8, ho8, rfl⟩ := r8
  clear c7 h8 g8 e8 ho8
  go_wp2_with fail
  (with_reducible refine (put32 G N (p + 32) q8 a8 _ _ H8.out P8.out (by omega) X8.out R8.out).mono ?_)
  rintro e w9 ⟨⟨v9, rfl, r9⟩, h9, g9⟩
  obtain ⟨q9, e9⟩ : ∃ q, q = q8 ++ be32 a8 := ⟨_, rfl⟩
  rw [← e9] at h9
  have P9 : Aside0 (q9.length = p + 36) := Aside0.mk (by rw [e9, List.length_append, P8.out]; rfl)
  have H9 := Aside0.mk h9
  have R9 : Aside0 (Rest G N (p + 36) v9) := Aside0.mk r9
  have B9 := Aside0.mk (blk_grown B8.out g9 hne)
  have GR9 := Aside0.mk (GR8.out.trans g9)
  have E9 := Aside0.mk e9
  have c9 : w9.cell? ⟨b, 9, none⟩ = some (.int .u8 a9) := (blk_cell B9.out 9).trans rfl
  obtain ⟨o9, ho9, rfl⟩ := r9
  clear c8 h9 g9 e9 ho9
  go_wp2_with fail
  (with_reducible refine (put8 G N (p + 36) q9 a9 _ _ H9.out P9.out (by omega) R9.out).mono ?_)
  rintro e w10 ⟨⟨v10, rfl, r10⟩, h10, g10⟩
  obtain ⟨q10, e10⟩ : ∃ q, q = q9 ++ [a9] := ⟨_, rfl⟩
  rw [← e10] at h10
  have P10 : Aside0 (q10.length = p + 37) := Aside0.mk (by rw [e10, List.length_append, P9.out]; rfl)
  have H10 := Aside0.mk h10
  have R10 : Aside0 (Rest G N (p + 37) v10) := Aside0.mk r10
  have B10 := Aside0.mk (blk_grown B9.out g10 hne)
  have GR10 := Aside0.mk (GR9.out.trans g10)
  have E10 := Aside0.mk e10
  have c10 : w10.cell? ⟨b, 10, none⟩ = some (.int .u8 a10) := (blk_cell B10.out 10).trans rfl
  obtain ⟨o10, ho10, rfl⟩ := r10
  clear c9 h10 g10 e10 ho10
  go_wp2_with fail
  (with_reducible refine (put8 G N (p + 37) q10 a10 _ _ H10.out P10.out (by omega) R10.out).mono ?_)
  rintro e w11 ⟨⟨v11, rfl, r11⟩, h11, g11⟩
  obtain ⟨q11, e11⟩ : ∃ q, q = q10 ++ [a10] := ⟨_, rfl⟩
  rw [← e11] at h11
  have P11 : Aside0 (q11.length = p + 38) := Aside0.mk (by rw [e11, List.length_append, P10.out]; rfl)
  have H11 := Aside0.mk h11
  have R11 : Aside0 (Rest G N (p + 38) v11) := Aside0.mk r11
  have B11 := Aside0.mk (blk_grown B10.out g11 hne)
  have GR11 := Aside0.mk (GR10.out.trans g11)
  have E11 := Aside0.mk e11
  have c11 : w11.cell? ⟨b, 11, none⟩ = some (.int .u8 a11) := (blk_cell B11.out 11).trans rfl
  obtain ⟨o11, ho11, rfl⟩ := r11
  clear c10 h11 g11 e11 ho11
  go_wp2_with fail
  (with_reducible refine (put8 G N (p + 38) q11 a11 _ _ H11.out P11.out (by omega) R11.out).mono ?_)
  rintro e w12 ⟨⟨v12, rfl, r12⟩, h12, g12⟩
  obtain ⟨q12, e12⟩ : ∃ q, q = q11 ++ [a11] := ⟨_, rfl⟩
  rw [← e12] at h12
  have P12 : Aside0 (q12.length = p + 39) := Aside0.mk (by rw [e12, List.length_append, P11.out]; rfl)
  have H12 := Aside0.mk h12
  have R12 : Aside0 (Rest G N (p + 39) v12) := Aside0.mk r12
  have B12 := Aside0.mk (blk_grown B11.out g12 hne)
  have GR12 := Aside0.mk (GR11.out.trans g12)
  have E12 := Aside0.mk e12
  have c12 : w12.cell? ⟨b, 12, none⟩ = some (.int .u8 a12) := (blk_cell B12.out 12).trans rfl
  obtain ⟨o12, ho12, rfl⟩ := r12
  clear c11 h12 g12 e12 ho12
  go_wp2_with fail
  (with_reducible refine (put8 G N (p + 39) q12 a12 _ _ H12.out P12.out (by omega) R12.out).mono ?_)
  rintro e w13 ⟨⟨v13, rfl, r13⟩, h13, g13⟩
  obtain ⟨q13, e13⟩ : ∃ q, q = q12 ++ [a12] := ⟨_, rfl⟩
  rw [← e13] at h13
  have P13 : Aside0 (q13.length = p + 40) := Aside0.mk (by rw [e13, List.length_append, P12.out]; rfl)
  have H13 := Aside0.mk h13
  have R13 : Aside0 (Rest G N (p + 40) v13) := Aside0.mk r13
  have B13 := Aside0.mk (blk_grown B12.out g13 hne)
  have GR13 := Aside0.mk (GR12.out.trans g13)
  have E13 := Aside0.mk e13
  have c13 : w13.cell? ⟨b, 13, none⟩ = some (.int .u32 a13) := (blk_cell B13.out 13).trans rfl
  obtain ⟨o13, ho13, rfl⟩ := r13
  clear c12 h13 g13 e13 ho13
  go_wp2_with fail
  (with_reducible refine (put32 G N (p + 40) q13 a13 _ _ H13.out P13.out (by omega) X13.out R13.out).mono ?_)
  rintro e w14 ⟨⟨v14, rfl, r14⟩, h14, g14⟩
  obtain ⟨q14, e14⟩ : ∃ q, q = q13 ++ be32 a13 := ⟨_, rfl⟩
  rw [← e14] at h14
  have P14 : Aside0 (q14.length = p + 44) := Aside0.mk (by rw [e14, List.length_append, P13.out]; rfl)
  have H14 := Aside0.mk h14
  have R14 : Aside0 (Rest G N (p + 44) v14) := Aside0.mk r14
  have B14 := Aside0.mk (blk_grown B13.out g14 hne)
  have GR14 := Aside0.mk (GR13.out.trans g14)
  have E14 := Aside0.mk e14
  have c14 : w14.cell? ⟨b, 14, none⟩ = some (.int .u32 a14) := (blk_cell B14.out 14).trans rfl
  obtain ⟨o14, ho14, rfl⟩ := r14
  clear c13 h14 g14 e14 ho14
  go_wp2_with fail
  (with_reducible refine (put32 G N (p + 44) q14 a14 _ _ H14.out P14.out (by omega) X14.out R14.out).mono ?_)
  rintro e w15 ⟨⟨v15, rfl, r15⟩, h15, g15⟩
  obtain ⟨q15, e15⟩ : ∃ q, q = q14 ++ be32 a14 := ⟨_, rfl⟩
  rw [← e15] at h15
  have P15 : Aside0 (q15.length = p + 48) := Aside0.mk (by rw [e15, List.length_append, P14.out]; rfl)
  have H15 := Aside0.mk h15
  have R15 : Aside0 (Rest G N (p + 48) v15) := Aside0.mk r15
  have B15 := Aside0.mk (blk_grown B14.out g15 hne)
  have GR15 := Aside0.mk (GR14.out.trans g15)
  have E15 := Aside0.mk e15
  have c15 : w15.cell? ⟨b, 15, none⟩ = some (.int .u32 a15) := (blk_cell B15.out 15).trans rfl
  obtain ⟨o15, ho15, rfl⟩ := r15
  clear c14 h15 g15 e15 ho15
  go_wp2_with fail
  (with_reducible refine (put32 G N (p + 48) q15 a15 _ _ H15.out P15.out (by omega) X15.out R15.out).mono ?_)
  rintro e w16 ⟨⟨v16, rfl, r16⟩, h16, g16⟩
  obtain ⟨q16, e16⟩ : ∃ q, q = q15 ++ be32 a15 := ⟨_, rfl⟩
  rw [← e16] at h16
  have P16 : Aside0 (q16.length = p + 52) := Aside0.mk (by rw [e16, List.length_append, P15.out]; rfl)
  have H16 := Aside0.mk h16
  have R16 : Aside0 (Rest G N (p + 52) v16) := Aside0.mk r16
  have B16 := Aside0.mk (blk_grown B15.out g16 hne)
  have GR16 := Aside0.mk (GR15.out.trans g16)
  have E16 := Aside0.mk e16
  have c16 : w16.cell? ⟨b, 16, none⟩ = some (.int .u32 a16) := (blk_cell B16.out 16).trans rfl
  obtain ⟨o16, ho16, rfl⟩ := r16
  clear c15 h16 g16 e16 ho16
  go_wp2_with fail
  (with_reducible refine (put32 G N (p + 52) q16 a16 _ _ H16.out P16.out (by omega) X16.out R16.out).mono ?_)
  rintro e w17 ⟨⟨v17, rfl, r17⟩, h17, g17⟩
  obtain ⟨q17, e17⟩ : ∃ q, q = q16 ++ be32 a16 := ⟨_, rfl⟩
  rw [← e17] at h17
  have P17 : Aside0 (q17.length = p + 56) := Aside0.mk (by rw [e17, List.length_append, P16.out]; rfl)
  have H17 := Aside0.mk h17
  have R17 : Aside0 (Rest G N (p + 56) v17) := Aside0.mk r17
  have B17 := Aside0.mk (blk_grown B16.out g17 hne)
  have GR17 := Aside0.mk (GR16.out.trans g17)
  have E17 := Aside0.mk e17
  have c17 : w17.cell? ⟨b, 17, none⟩ = some (.int .u64 a17) := (blk_cell B17.out 17).trans rfl
  obtain ⟨o17, ho17, rfl⟩ := r17
  clear c16 h17 g17 e17 ho17
  go_wp2_with fail
  (with_reducible refine (put64 G N (p + 56) q17 a17 _ _ H17.out P17.out (by omega) X17.out R17.out).mono ?_)
  rintro e w18 ⟨⟨v18, rfl, r18⟩, h18, g18⟩
  obtain ⟨q18, e18⟩ : ∃ q, q = q17 ++ be64 a17 := ⟨_, rfl⟩
  rw [← e18] at h18
  have P18 : Aside0 (q18.length = p + 64) := Aside0.mk (by rw [e18, List.length_append, P17.out]; rfl)
  have H18 := Aside0.mk h18
  have R18 : Aside0 (Rest G N (p + 64) v18) := Aside0.mk r18
  have B18 := Aside0.mk (blk_grown B17.out g18 hne)
  have GR18 := Aside0.mk (GR17.out.trans g18)
  have E18 := Aside0.mk e18
  have c18 : w18.cell? ⟨b, 18, none⟩ = some (.int .u64 a18) := (blk_cell B18.out 18).trans rfl
  obtain ⟨o18, ho18, rfl⟩ := r18
  clear c17 h18 g18 e18 ho18
  go_wp2_with fail
  (with_reducible refine (put64 G N (p + 64) q18 a18 _ _ H18.out P18.out (by omega) X18.out R18.out).mono ?_)
  rintro e w19 ⟨⟨v19, rfl, r19⟩, h19, g19⟩
  obtain ⟨q19, e19⟩ : ∃ q, q = q18 ++ be64 a18 := ⟨_, rfl⟩
  rw [← e19] at h19
  have P19 : Aside0 (q19.length = p + 72) := Aside0.mk (by rw [e19, List.length_append, P18.out]; rfl)
  have H19 := Aside0.mk h19
  have R19 : Aside0 (Rest G N (p + 72) v19) := Aside0.mk r19
  have B19 := Aside0.mk (blk_grown B18.out g19 hne)
  have GR19 := Aside0.mk (GR18.out.trans g19)
  have E19 := Aside0.mk e19
  have c19 : w19.cell? ⟨b, 19, none⟩ = some (.int .u64 a19) := (blk_cell B19.out 19).trans rfl
  obtain ⟨o19, ho19, rfl⟩ := r19
  clear c18 h19 g19 e19 ho19
  go_wp2_with fail
  (with_reducible refine (put64 G N (p + 72) q19 a19 _ _ H19.out P19.out (by omega) X19.out R19.out).mono ?_)
  rintro e w20 ⟨⟨v20, rfl, r20⟩, h20, g20⟩
  obtain ⟨q20, e20⟩ : ∃ q, q = q19 ++ be64 a19 := ⟨_, rfl⟩
  rw [← e20] at h20
  have P20 : Aside0 (q20.length = p + 80) := Aside0.mk (by rw [e20, List.length_append, P19.out]; rfl)
  have H20 := Aside0.mk h20
  have R20 : Aside0 (Rest G N (p + 80) v20) := Aside0.mk r20
  have B20 := Aside0.mk (blk_grown B19.out g20 hne)
  have GR20 := Aside0.mk (GR19.out.trans g20)
  have E20 := Aside0.mk e20
  have c20 : w20.cell? ⟨b, 20, none⟩ = some (.int .u64 a20) := (blk_cell B20.out 20).trans rfl
  obtain ⟨o20, ho20, rfl⟩ := r20
  clear c19 h20 g20 e20 ho20
  go_wp2_with fail
  (with_reducible refine (put64 G N (p + 80) q20 a20 _ _ H20.out P20.out (by omega) X20.out R20.out).mono ?_)
  rintro e w21 ⟨⟨v21, rfl, r21⟩, h21, g21⟩
  obtain ⟨q21, e21⟩ : ∃ q, q = q20 ++ be64 a20 := ⟨_, rfl⟩
  rw [← e21] at h21
  have P21 : Aside0 (q21.length = p + 88) := Aside0.mk (by rw [e21, List.length_append, P20.out]; rfl)
  have H21 := Aside0.mk h21
  have R21 : Aside0 (Rest G N (p + 88) v21) := Aside0.mk r21
  have B21 := Aside0.mk (blk_grown B20.out g21 hne)
  have GR21 := Aside0.mk (GR20.out.trans g21)
  have E21 := Aside0.mk e21
  obtain ⟨o21, ho21, rfl⟩ := r21
  clear c20 h21 g21 e21 ho21
  go_wp2_with fail
  go_ret
  refine ⟨⟨_, rfl, R21.out⟩, ?_, GR21.out⟩
  have h := H21.out
  rw [E21.out, E20.out, E19.out, E18.out, E17.out, E16.out, E15.out, E14.out, E13.out, E12.out, E11.out, E10.out, E9.out, E8.out, E7.out, E6.out, E5.out, E4.out, E3.out, E2.out, E1.out] at h
  simp only [List.append_assoc, List.cons_append, List.nil_append] at h ⊢
  exact h

end Go.Proofs.YtodofpjdcongnaaDoor.Sign

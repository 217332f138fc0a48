/- Bytes that are written one behind the other into a row of noughts: the state, and the contracts of put32be, put8, put64be and puts. -/
import Derived.Test.YtodofpjdcongnaaDoorParts
import Derived.Laws.CopyOwn
namespace Go.Proofs.YtodofpjdcongnaaDoor.Sign
open Go.RowKit Go.Proofs.YtodofpjdcongnaaDoorW.PrintWords

/-- block G is a row of N bytes: pre, and noughts behind it -/
def St (w : World) (G N : Nat) (pre : List Int) : Prop :=
  pre.length ≤ N ∧ w.heap[G]? = some (.cells (nums .u8 (pre ++ List.replicate (N - pre.length) 0)).toArray 5 (0, 0))

theorem St.zero {w : World} {G N : Nat} {pre : List Int} (h : St w G N pre) (j : Nat) (h1 : pre.length ≤ j) (h2 : j < N) : w.cell? ⟨G, j, none⟩ = some (.int .u8 0) := by
  rw [blk_cell h.2]
  have hl := h.1
  simp only [nums, List.getElem?_toArray, List.getElem?_map]
  rw [List.getElem?_append_right h1, List.getElem?_replicate, if_pos (by omega)]
  rfl

theorem St.free {w : World} {G N : Nat} {pre : List Int} (h : St w G N pre) (j : Nat) : w.frozen? ⟨G, j, none⟩ = false := blk_frozen h.2 j

theorem St.put {w : World} {G N : Nat} {pre : List Int} (h : St w G N pre) (hp : pre.length < N) (b : Int) : St (w.setCell ⟨G, pre.length, none⟩ (.int .u8 b)) G N (pre ++ [b]) := by
  refine ⟨by rw [List.length_append]; exact hp, blk_put h.2 _ _ ?_⟩
  obtain ⟨m, hm⟩ : ∃ m, N - pre.length = m + 1 := ⟨N - pre.length - 1, by omega⟩
  have hm2 : N - (pre ++ [b]).length = m := by rw [List.length_append, List.length_singleton]; omega
  rw [hm, hm2, List.setIfInBounds_toArray]
  congr 1
  simp only [nums, List.map_append, List.replicate_succ, List.map_cons, List.append_assoc]
  rw [List.set_append_right _ _ (by simp)]
  simp

theorem grown_set (w : World) (G j : Nat) (u : Value) : w.grownBy (w.setCell ⟨G, j, none⟩ u) (some G) :=
  ⟨rfl, rfl, rfl, by simp [World.setCell], fun k _ hk => Below.heap_setCell w ⟨G, j, none⟩ u k (fun e => hk (by rw [e]))⟩

theorem St.grown {w w1 : World} {G N : Nat} {pre : List Int} (h : St w G N pre) {row : Option Nat} (hg : w.grownBy w1 row) (hr : some G ≠ row) : St w1 G N pre := ⟨h.1, blk_grown h.2 hg hr⟩

/-- a number's bytes, the high ones first -/
def be32 (x : Int) : List Int := [x / 16777216 % 256, x / 65536 % 256, x / 256 % 256, x % 256]
def be64 (x : Int) : List Int := be32 (x / 4294967296 % 4294967296) ++ be32 (x % 4294967296)

theorem be32_len (x : Int) : (be32 x).length = 4 := rfl
theorem be64_len (x : Int) : (be64 x).length = 8 := rfl

/-- what is left of the row behind place p -/
def Rest (G N p : Nat) (v : Value) : Prop := ∃ o, (o = p ∨ p = N) ∧ v = .slice (some ⟨G, o, none⟩) (N - p) (N - p)

set_option maxHeartbeats 4000000 in
set_option maxRecDepth 100000 in
theorem be_put32 (G N p : Nat) (pre : List Int) (x : Int) (w : World) (h : St w G N pre) (hp : pre.length = p) (h4 : p + 4 ≤ N) (hx : 0 ≤ x ∧ x < 4294967296) (m : Nat) (hm : N - p = m) :
    Calls Tryd.prog 50 #[.slice (some ⟨G, p, none⟩) m m, .int .u32 x] w fun e w' => e = .returned (.tuple #[]) ∧ St w' G N (pre ++ be32 x) ∧ w.grownBy w' (some G) := by
  have c0 := h.zero p (by omega) (by omega)
  have c1 := h.zero (p + 1) (by omega) (by omega)
  have c2 := h.zero (p + 2) (by omega) (by omega)
  have c3 := h.zero (p + 3) (by omega) (by omega)
  have f0 := h.free p
  have f1 := h.free (p + 1)
  have f2 := h.free (p + 2)
  have f3 := h.free (p + 3)
  have hm4 : 4 ≤ m := by omega
  have d0 : decide ((0 : Int) < (m : Int)) = true := decide_eq_true (by omega)
  have d1 : decide ((1 : Int) < (m : Int)) = true := decide_eq_true (by omega)
  have d2 : decide ((2 : Int) < (m : Int)) = true := decide_eq_true (by omega)
  have d3 : decide ((3 : Int) < (m : Int)) = true := decide_eq_true (by omega)
  obtain ⟨hx0, hx1⟩ := hx
  have H := Aside0.mk h
  have HP := Aside0.mk hp
  clear h hp
  go_enter Tryd.func50, Tryd.ntmps50
  go_wp2_with fail
  go_end0
  refine ⟨rfl, ?_, ?_⟩
  · have e : pre ++ be32 x = pre ++ [x / 16777216] ++ [x / 65536 % 256] ++ [x / 256 % 256] ++ [x % 256] := by
      have : x / 16777216 % 256 = x / 16777216 := by omega
      simp [be32, this]
    rw [e]
    have hp := HP.out
    have a1 := H.out.put (by omega) (x / 16777216)
    have a2 := a1.put (by simp; omega) (x / 65536 % 256)
    have a3 := a2.put (by simp; omega) (x / 256 % 256)
    have a4 := a3.put (by simp; omega) (x % 256)
    simp only [List.length_append, List.length_singleton, hp] at a4
    exact a4
  · exact (((grown_set w G p _).trans (grown_set _ G _ _)).trans (grown_set _ G _ _)).trans (grown_set _ G _ _)

set_option maxHeartbeats 4000000 in
set_option maxRecDepth 100000 in
theorem put32 (G N p : Nat) (pre : List Int) (x : Int) (v : Value) (w : World) (h : St w G N pre) (hp : pre.length = p) (h4 : p + 4 ≤ N) (hx : 0 ≤ x ∧ x < 4294967296) (hv : Rest G N p v) :
    Calls Tryd.prog 43 #[v, .int .u32 x] w fun e w' => (∃ v', e = .returned v' ∧ Rest G N (p + 4) v') ∧ St w' G N (pre ++ be32 x) ∧ w.grownBy w' (some G) := by
  obtain ⟨o, ho, rfl⟩ := hv
  obtain rfl : o = p := by omega
  obtain ⟨m, hm⟩ : ∃ m, N - o = m := ⟨_, rfl⟩
  rw [hm]
  have hm4 : 4 ≤ m := by omega
  have hm4i : (4 : Int) ≤ (m : Int) := by omega
  have H := Aside0.mk h
  have HP := Aside0.mk hp
  have HX := Aside0.mk hx
  have HM := Aside0.mk hm
  clear h hp hx hm
  by_cases he : m = 4
  · subst he
    go_enter Tryd.func43, Tryd.ntmps43
    go_wp2_with fail
    (with_reducible refine (be_put32 G N o pre x _ H.out HP.out h4 HX.out 4 HM.out).mono ?_)
    rintro e w1 ⟨rfl, h1, g1⟩
    have H1 := Aside0.mk h1
    have G1 := Aside0.mk g1
    clear h1 g1
    go_wp2_with fail
    go_ret
    exact ⟨⟨_, rfl, o, .inr (by have := HM.out; omega), by rw [show N - (o + 4) = 0 by have := HM.out; omega]; rfl⟩, H1.out, G1.out⟩
  · have he2 : ¬ (m = 4) := he
    go_enter Tryd.func43, Tryd.ntmps43
    go_wp2_with fail
    (with_reducible refine (be_put32 G N o pre x _ H.out HP.out h4 HX.out m HM.out).mono ?_)
    rintro e w1 ⟨rfl, h1, g1⟩
    have H1 := Aside0.mk h1
    have G1 := Aside0.mk g1
    clear h1 g1
    go_wp2_with fail
    go_ret
    exact ⟨⟨_, rfl, o + 4, .inl rfl, by rw [show N - (o + 4) = m - 4 by have := HM.out; omega]; rfl⟩, H1.out, G1.out⟩

set_option maxHeartbeats 4000000 in
set_option maxRecDepth 100000 in
theorem put8 (G N p : Nat) (pre : List Int) (x : Int) (v : Value) (w : World) (h : St w G N pre) (hp : pre.length = p) (h4 : p + 1 ≤ N) (hv : Rest G N p v) :
    Calls Tryd.prog 44 #[v, .int .u8 x] w fun e w' => (∃ v', e = .returned v' ∧ Rest G N (p + 1) v') ∧ St w' G N (pre ++ [x]) ∧ w.grownBy w' (some G) := by
  obtain ⟨o, ho, rfl⟩ := hv
  obtain rfl : o = p := by omega
  have c0 := h.zero o (by omega) (by omega)
  have f0 := h.free o
  obtain ⟨m, hm⟩ : ∃ m, N - o = m := ⟨_, rfl⟩
  rw [hm]
  have hm4 : 1 ≤ m := by omega
  have hm4i : (1 : Int) ≤ (m : Int) := by omega
  have d0 : decide ((0 : Int) < (m : Int)) = true := decide_eq_true (by omega)
  have H1 := Aside0.mk (h.put (by omega) x)
  have HP := Aside0.mk hp
  have HM := Aside0.mk hm
  clear h hp hm
  by_cases he : m = 1
  · subst he
    go_enter Tryd.func44, Tryd.ntmps44
    go_wp2_with fail
    go_ret
    exact ⟨⟨_, rfl, o, .inr (by have := HM.out; omega), by rw [show N - (o + 1) = 0 by have := HM.out; omega]; rfl⟩, by have := H1.out; rwa [HP.out] at this, grown_set w G o _⟩
  · have he2 : ¬ (m = 1) := he
    go_enter Tryd.func44, Tryd.ntmps44
    go_wp2_with fail
    go_ret
    exact ⟨⟨_, rfl, o + 1, .inl rfl, by rw [show N - (o + 1) = m - 1 by have := HM.out; omega]; rfl⟩, by have := H1.out; rwa [HP.out] at this, grown_set w G o _⟩

set_option maxHeartbeats 4000000 in
set_option maxRecDepth 100000 in
theorem be_put64 (G N p : Nat) (pre : List Int) (x : Int) (w : World) (h : St w G N pre) (hp : pre.length = p) (h4 : p + 8 ≤ N) (hx : 0 ≤ x ∧ x < 18446744073709551616) (m : Nat) (hm : N - p = m) :
    Calls Tryd.prog 51 #[.slice (some ⟨G, p, none⟩) m m, .int .u64 x] w fun e w' => e = .returned (.tuple #[]) ∧ St w' G N (pre ++ be64 x) ∧ w.grownBy w' (some G) := by
  have c7 := h.zero (p + 7) (by omega) (by omega)
  have hm4 : 8 ≤ m := by omega
  have hm4i : (4 : Int) ≤ (m : Int) := by omega
  have he2 : ¬ (m = 4) := by omega
  have d7 : decide ((7 : Int) < (m : Int)) = true := decide_eq_true (by omega)
  obtain ⟨hx0, hx1⟩ := hx
  obtain ⟨a, ha⟩ : ∃ a, a = x / 4294967296 := ⟨_, rfl⟩
  obtain ⟨b, hb⟩ : ∃ b, b = x % 4294967296 := ⟨_, rfl⟩
  have HA := Aside0.mk ha
  have HB := Aside0.mk hb
  have HAX : Aside0 (0 ≤ x / 4294967296 ∧ x / 4294967296 < 4294967296) := Aside0.mk (by omega)
  have HBX : Aside0 (0 ≤ x % 4294967296 ∧ x % 4294967296 < 4294967296) := Aside0.mk (by omega)
  have H := Aside0.mk h
  have HP := Aside0.mk hp
  have HM := Aside0.mk hm
  clear h hp ha hb hm
  go_enter Tryd.func51, Tryd.ntmps51
  go_wp2_with fail
  (with_reducible refine (be_put32 G N p pre _ _ H.out HP.out (by omega) HAX.out m HM.out).mono ?_)
  rintro e w1 ⟨rfl, h1, g1⟩
  have H1 := Aside0.mk h1
  have G1 := Aside0.mk g1
  clear h1 g1
  go_wp2_with fail
  (with_reducible refine (be_put32 G N (p + 4) (pre ++ be32 (x / 4294967296)) _ _ H1.out (by rw [List.length_append, HP.out, be32_len]) (by omega) HBX.out (m - 4) (by have := HM.out; omega)).mono ?_)
  rintro e w2 ⟨rfl, h2, g2⟩
  have H2 := Aside0.mk h2
  have G2 := Aside0.mk (G1.out.trans g2)
  clear h2 g2
  go_wp2_with fail
  go_end0
  refine ⟨rfl, ?_, G2.out⟩
  have e : be64 x = be32 (x / 4294967296) ++ be32 (x % 4294967296) := by
    unfold be64
    rw [show x / 4294967296 % 4294967296 = x / 4294967296 by omega]
  rw [e, ← List.append_assoc]
  exact H2.out

set_option maxHeartbeats 4000000 in
set_option maxRecDepth 100000 in
theorem put64 (G N p : Nat) (pre : List Int) (x : Int) (v : Value) (w : World) (h : St w G N pre) (hp : pre.length = p) (h4 : p + 8 ≤ N) (hx : 0 ≤ x ∧ x < 18446744073709551616) (hv : Rest G N p v) :
    Calls Tryd.prog 45 #[v, .int .u64 x] w fun e w' => (∃ v', e = .returned v' ∧ Rest G N (p + 8) v') ∧ St w' G N (pre ++ be64 x) ∧ w.grownBy w' (some G) := by
  obtain ⟨o, ho, rfl⟩ := hv
  obtain rfl : o = p := by omega
  obtain ⟨m, hm⟩ : ∃ m, N - o = m := ⟨_, rfl⟩
  rw [hm]
  have hm4 : 8 ≤ m := by omega
  have hm4i : (8 : Int) ≤ (m : Int) := by omega
  have H := Aside0.mk h
  have HP := Aside0.mk hp
  have HX := Aside0.mk hx
  have HM := Aside0.mk hm
  clear h hp hx hm
  by_cases he : m = 8
  · subst he
    go_enter Tryd.func45, Tryd.ntmps45
    go_wp2_with fail
    (with_reducible refine (be_put64 G N o pre x _ H.out HP.out h4 HX.out 8 HM.out).mono ?_)
    rintro e w1 ⟨rfl, h1, g1⟩
    have H1 := Aside0.mk h1
    have G1 := Aside0.mk g1
    clear h1 g1
    go_wp2_with fail
    go_ret
    exact ⟨⟨_, rfl, o, .inr (by have := HM.out; omega), by rw [show N - (o + 8) = 0 by have := HM.out; omega]; rfl⟩, H1.out, G1.out⟩
  · have he2 : ¬ (m = 8) := he
    go_enter Tryd.func45, Tryd.ntmps45
    go_wp2_with fail
    (with_reducible refine (be_put64 G N o pre x _ H.out HP.out h4 HX.out m HM.out).mono ?_)
    rintro e w1 ⟨rfl, h1, g1⟩
    have H1 := Aside0.mk h1
    have G1 := Aside0.mk g1
    clear h1 g1
    go_wp2_with fail
    go_ret
    exact ⟨⟨_, rfl, o + 8, .inl rfl, by rw [show N - (o + 8) = m - 8 by have := HM.out; omega]; rfl⟩, H1.out, G1.out⟩

theorem grown_row (w : World) (G : Nat) (cs : Array Value) : w.grownBy (w.setRow G cs) (some G) :=
  ⟨rfl, rfl, rfl, by simp [World.setRow], fun k _ hk => setRow_other w G k cs (fun e => hk (by rw [e]))⟩

theorem St.row {w : World} {G N p : Nat} {pre ys : List Int} (h : St w G N pre) (hp : pre.length = p) (hn : p + ys.length ≤ N) :
    St (w.setRow G ((nums .u8 (pre ++ List.replicate (N - p) 0)).take p ++ (nums .u8 ys ++ (nums .u8 (pre ++ List.replicate (N - p) 0)).drop (p + ys.length))).toArray) G N (pre ++ ys) := by
  subst hp
  refine ⟨by rw [List.length_append]; exact hn, ?_⟩
  rw [setRow_heap w G _ _ 5 (0, 0) h.2]
  congr 2
  have e1 : (nums .u8 (pre ++ List.replicate (N - pre.length) 0)).take pre.length = nums .u8 pre := by
    rw [nums_append]; exact List.take_left' (by simp [nums])
  have e2 : (nums .u8 (pre ++ List.replicate (N - pre.length) 0)).drop (pre.length + ys.length) = nums .u8 (List.replicate (N - pre.length - ys.length) 0) := by
    rw [nums_append, List.drop_append]
    simp [nums]
  rw [e1, e2, ← nums_append, ← nums_append, List.append_assoc, List.length_append, Nat.sub_sub]

theorem info5s : (Tryd.prog.info? 5).map (·.size) = some 1 := by kernel_rfl

set_option maxHeartbeats 4000000 in
set_option maxRecDepth 100000 in
theorem puts (G N p n c : Nat) (pre ys : List Int) (A : Option Addr) (v : Value) (w : World) (h : St w G N pre) (hp : pre.length = p) (h0 : 0 < n) (h4 : p + n ≤ N) (hN : N ≤ 4611686018427387904) (hv : Rest G N p v) (hr : ReadsInt w .u8 A n ys) :
    Calls Tryd.prog 36 #[v, .slice A n c] w fun e w' => (∃ v', e = .returned v' ∧ Rest G N (p + n) v') ∧ St w' G N (pre ++ ys) ∧ w.grownBy w' (some G) := by
  obtain ⟨o, ho, rfl⟩ := hv
  obtain rfl : o = p := by omega
  obtain ⟨m, hm⟩ : ∃ m, N - o = m := ⟨_, rfl⟩
  rw [hm]
  obtain ⟨hyl, _, hcell⟩ := hr
  obtain ⟨ad, rfl, hcs⟩ := hcell h0
  have hnm : n ≤ m := by omega
  have hsrc : ∀ j u, (nums .u8 ys)[j]? = some u → w.cell? (ad.add j) = some u := fun j u hu => by
    have hj : j < ys.length := by
      have := (List.getElem?_eq_some_iff.1 hu).1
      simpa [nums] using this
    rw [hcs j (by omega), ← hu]
    simp [nums, List.getD_eq_getElem?_getD, hj]
  have HS := Aside0.mk hsrc
  have H := Aside0.mk h
  have HP := Aside0.mk hp
  have HM := Aside0.mk hm
  have HY := Aside0.mk hyl
  have hmi : (n : Int) ≤ (m : Int) := by omega
  have hni : (0 : Int) ≤ (n : Int) := by omega
  have hml : (m : Int) ≤ 4611686018427387904 := by omega
  have HC : Aside0 ((nums .u8 ys).length = Nat.min n m) := Aside0.mk (by
    show _ = min n m
    rw [Nat.min_eq_left hnm]; simp [nums, hyl])
  have HF : Aside0 (o + (nums .u8 ys).length ≤ (nums .u8 (pre ++ List.replicate (N - pre.length) 0)).toArray.size) := Aside0.mk (by simp [nums]; omega)
  have H1C : Aside0 (∀ u ∈ nums .u8 ys, u.oneCell' = true) := Aside0.mk (fun u hu => by
    simp only [nums, List.mem_map] at hu
    obtain ⟨q, _, rfl⟩ := hu
    rfl)
  have HL : Aside0 (goInt (nums .u8 ys).length = .int .i64 (n : Int)) := Aside0.mk (by simp [nums, hyl, goInt])
  clear h hp hm hyl hsrc hcs hcell
  by_cases he : m = n
  · subst he
    go_enter Tryd.func36, Tryd.ntmps36
    go_wp2_with (refine wpList_copy_own (o := ⟨some 8, _, _, _, _, _⟩) rfl (.tmp 6) (.tmp 7) 22 22 rfl 5 Tryd.underlying22 info5s G o m m ad m c rfl rfl _ 5 H.out.2 (nums .u8 ys) HC.out HS.out HF.out H1C.out ?_; rw [HL.out])
    go_ret
    refine ⟨⟨_, rfl, o, .inr (by have := HM.out; omega), by rw [show N - (o + m) = 0 by have := HM.out; omega]; rfl⟩, ?_, grown_row w G _⟩
    have := H.out.row HP.out (ys := ys) (by rw [HY.out]; omega)
    simpa [HP.out, nums] using this
  · have he2 : ¬ (m = n) := he
    go_enter Tryd.func36, Tryd.ntmps36
    go_wp2_with (refine wpList_copy_own (o := ⟨some 8, _, _, _, _, _⟩) rfl (.tmp 6) (.tmp 7) 22 22 rfl 5 Tryd.underlying22 info5s G o m m ad n c rfl rfl _ 5 H.out.2 (nums .u8 ys) HC.out HS.out HF.out H1C.out ?_; rw [HL.out])
    go_ret
    refine ⟨⟨_, rfl, o + n, .inl rfl, by rw [show N - (o + n) = m - n by have := HM.out; omega]; rfl⟩, ?_, grown_row w G _⟩
    have := H.out.row HP.out (ys := ys) (by rw [HY.out]; omega)
    simpa [HP.out, nums] using this

end Go.Proofs.YtodofpjdcongnaaDoor.Sign

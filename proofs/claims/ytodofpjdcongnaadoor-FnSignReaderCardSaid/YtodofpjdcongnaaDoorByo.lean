/- The bytes of a number, put into a row of whatever type. -/
import Derived.Test.YtodofpjdcongnaaDoorDgs
section
/- The bytes of a number, put into a row of whatever type (internal/byteorder). -/
namespace Go.Proofs.YtodofpjdcongnaaDoor.Sign
open Go.RowKit Go.Proofs.YtodofpjdcongnaaDoorW.PrintWords

def Row8 (T : TypeId) (w : World) (G N : Nat) (pre : List Int) : Prop :=
  pre.length ≤ N ∧ w.heap[G]? = some (.cells (nums .u8 (pre ++ List.replicate (N - pre.length) 0)).toArray T (0, 0))

theorem Row8.zero {T : TypeId} {w : World} {G N : Nat} {pre : List Int} (h : Row8 T w G N pre) (j : Nat) (h1 : pre.length ≤ j) (h2 : j < N) : w.cell? ⟨G, j, none⟩ = some (.int .u8 0) := by
  rw [blk_cell h.2]
  have hl := h.1
  simp only [nums, List.getElem?_toArray, List.getElem?_map]
  rw [List.getElem?_append_right h1, List.getElem?_replicate, if_pos (by omega)]
  rfl

theorem Row8.free {T : TypeId} {w : World} {G N : Nat} {pre : List Int} (h : Row8 T w G N pre) (j : Nat) : w.frozen? ⟨G, j, none⟩ = false := blk_frozen h.2 j

theorem Row8.put {T : TypeId} {w : World} {G N : Nat} {pre : List Int} (h : Row8 T w G N pre) (hp : pre.length < N) (b : Int) : Row8 T (w.setCell ⟨G, pre.length, none⟩ (.int .u8 b)) G N (pre ++ [b]) := by
  refine ⟨by rw [List.length_append]; exact hp, blk_put h.2 _ _ ?_⟩
  obtain ⟨m, hm⟩ : ∃ m, N - pre.length = m + 1 := ⟨N - pre.length - 1, by omega⟩
  have hm2 : N - (pre ++ [b]).length = m := by rw [List.length_append, List.length_singleton]; omega
  rw [hm, hm2, List.setIfInBounds_toArray]
  congr 1
  simp only [nums, List.map_append, List.replicate_succ, List.map_cons, List.append_assoc]
  rw [List.set_append_right _ _ (by simp)]
  simp

set_option maxHeartbeats 4000000 in
set_option maxRecDepth 100000 in
theorem bo_put32 (T : TypeId) (G N p : Nat) (pre : List Int) (x : Int) (w : World) (h : Row8 T w G N pre) (hp : pre.length = p) (h4 : p + 4 ≤ N) (hx : 0 ≤ x ∧ x < 4294967296) (m : Nat) (hm : N - p = m) :
    Calls Tryd.prog 95 #[.slice (some ⟨G, p, none⟩) m m, .int .u32 x] w fun e w' => e = .returned (.tuple #[]) ∧ Row8 T w' G N (pre ++ be32 x) ∧ w.grownBy w' (some G) := by
  have c0 := h.zero p (by omega) (by omega)
  have c1 := h.zero (p + 1) (by omega) (by omega)
  have c2 := h.zero (p + 2) (by omega) (by omega)
  have c3 := h.zero (p + 3) (by omega) (by omega)
  have f0 := h.free p
  have f1 := h.free (p + 1)
  have f2 := h.free (p + 2)
  have f3 := h.free (p + 3)
  have hm4 : 4 ≤ m := by omega
  have d0 : decide ((0 : Int) < (m : Int)) = true := decide_eq_true (by omega)
  have d1 : decide ((1 : Int) < (m : Int)) = true := decide_eq_true (by omega)
  have d2 : decide ((2 : Int) < (m : Int)) = true := decide_eq_true (by omega)
  have d3 : decide ((3 : Int) < (m : Int)) = true := decide_eq_true (by omega)
  obtain ⟨hx0, hx1⟩ := hx
  have H := Aside0.mk h
  have HP := Aside0.mk hp
  clear h hp
  go_enter Tryd.func95, Tryd.ntmps95
  go_wp2_with fail
  go_end0
  refine ⟨rfl, ?_, ?_⟩
  · have e : pre ++ be32 x = pre ++ [x / 16777216] ++ [x / 65536 % 256] ++ [x / 256 % 256] ++ [x % 256] := by
      have : x / 16777216 % 256 = x / 16777216 := by omega
      simp [be32, this]
    rw [e]
    have hp := HP.out
    have a1 := H.out.put (by omega) (x / 16777216)
    have a2 := a1.put (by simp; omega) (x / 65536 % 256)
    have a3 := a2.put (by simp; omega) (x / 256 % 256)
    have a4 := a3.put (by simp; omega) (x % 256)
    simp only [List.length_append, List.length_singleton, hp] at a4
    exact a4
  · exact (((grown_set w G p _).trans (grown_set _ G _ _)).trans (grown_set _ G _ _)).trans (grown_set _ G _ _)

theorem be64_eq (x : Int) (h0 : 0 ≤ x) (h1 : x < 18446744073709551616) : be64 x = [x / 72057594037927936, x / 281474976710656 % 256, x / 1099511627776 % 256, x / 4294967296 % 256, x / 16777216 % 256, x / 65536 % 256, x / 256 % 256, x % 256] := by
  have e0 : x / 4294967296 % 4294967296 / 16777216 % 256 = x / 72057594037927936 := by omega
  have e1 : x / 4294967296 % 4294967296 / 65536 % 256 = x / 281474976710656 % 256 := by omega
  have e2 : x / 4294967296 % 4294967296 / 256 % 256 = x / 1099511627776 % 256 := by omega
  have e3 : x / 4294967296 % 4294967296 % 256 = x / 4294967296 % 256 := by omega
  have e4 : x % 4294967296 / 16777216 % 256 = x / 16777216 % 256 := by omega
  have e5 : x % 4294967296 / 65536 % 256 = x / 65536 % 256 := by omega
  have e6 : x % 4294967296 / 256 % 256 = x / 256 % 256 := by omega
  have e7 : x % 4294967296 % 256 = x % 256 := by omega
  unfold be64 be32
  rw [e0, e1, e2, e3, e4, e5, e6, e7]
  rfl

set_option maxHeartbeats 4000000 in
set_option maxRecDepth 100000 in
theorem bo_put64 (T : TypeId) (G N p : Nat) (pre : List Int) (x : Int) (w : World) (h : Row8 T w G N pre) (hp : pre.length = p) (h4 : p + 8 ≤ N) (hx : 0 ≤ x ∧ x < 18446744073709551616) (m : Nat) (hm : N - p = m) :
    Calls Tryd.prog 94 #[.slice (some ⟨G, p, none⟩) m m, .int .u64 x] w fun e w' => e = .returned (.tuple #[]) ∧ Row8 T w' G N (pre ++ be64 x) ∧ w.grownBy w' (some G) := by
  have c0 := h.zero p (by omega) (by omega)
  have f0 := h.free p
  have c1 := h.zero (p + 1) (by omega) (by omega)
  have f1 := h.free (p + 1)
  have c2 := h.zero (p + 2) (by omega) (by omega)
  have f2 := h.free (p + 2)
  have c3 := h.zero (p + 3) (by omega) (by omega)
  have f3 := h.free (p + 3)
  have c4 := h.zero (p + 4) (by omega) (by omega)
  have f4 := h.free (p + 4)
  have c5 := h.zero (p + 5) (by omega) (by omega)
  have f5 := h.free (p + 5)
  have c6 := h.zero (p + 6) (by omega) (by omega)
  have f6 := h.free (p + 6)
  have c7 := h.zero (p + 7) (by omega) (by omega)
  have f7 := h.free (p + 7)
  have hm4 : 8 ≤ m := by omega
  have d0 : decide ((0 : Int) < (m : Int)) = true := decide_eq_true (by omega)
  have d1 : decide ((1 : Int) < (m : Int)) = true := decide_eq_true (by omega)
  have d2 : decide ((2 : Int) < (m : Int)) = true := decide_eq_true (by omega)
  have d3 : decide ((3 : Int) < (m : Int)) = true := decide_eq_true (by omega)
  have d4 : decide ((4 : Int) < (m : Int)) = true := decide_eq_true (by omega)
  have d5 : decide ((5 : Int) < (m : Int)) = true := decide_eq_true (by omega)
  have d6 : decide ((6 : Int) < (m : Int)) = true := decide_eq_true (by omega)
  have d7 : decide ((7 : Int) < (m : Int)) = true := decide_eq_true (by omega)
  obtain ⟨hx0, hx1⟩ := hx
  have H := Aside0.mk h
  have HP := Aside0.mk hp
  clear h hp
  go_enter Tryd.func94, Tryd.ntmps94
  go_wp2_with fail
  go_end0
  refine ⟨rfl, ?_, ?_⟩
  · have e : pre ++ be64 x = pre ++ [x / 72057594037927936] ++ [x / 281474976710656 % 256] ++ [x / 1099511627776 % 256] ++ [x / 4294967296 % 256] ++ [x / 16777216 % 256] ++ [x / 65536 % 256] ++ [x / 256 % 256] ++ [x % 256] := by
      rw [be64_eq x hx0 hx1]
      simp
    rw [e]
    have hp := HP.out
    have a1 := H.out.put (by omega) (x / 72057594037927936)
    have a2 := a1.put (by simp; omega) (x / 281474976710656 % 256)
    have a3 := a2.put (by simp; omega) (x / 1099511627776 % 256)
    have a4 := a3.put (by simp; omega) (x / 4294967296 % 256)
    have a5 := a4.put (by simp; omega) (x / 16777216 % 256)
    have a6 := a5.put (by simp; omega) (x / 65536 % 256)
    have a7 := a6.put (by simp; omega) (x / 256 % 256)
    have a8 := a7.put (by simp; omega) (x % 256)
    simp only [List.length_append, List.length_singleton, hp] at a8
    exact a8
  · exact ((((((((grown_put w G p _).trans (grown_put _ G _ _)).trans (grown_put _ G _ _)).trans (grown_put _ G _ _)).trans (grown_put _ G _ _)).trans (grown_put _ G _ _)).trans (grown_put _ G _ _)).trans (grown_put _ G _ _))
end Go.Proofs.YtodofpjdcongnaaDoor.Sign
end

section
/- The same through crypto/internal/fips140deps/byteorder. -/
namespace Go.Proofs.YtodofpjdcongnaaDoor.Sign
open Go.RowKit Go.Proofs.YtodofpjdcongnaaDoorW.PrintWords

set_option maxHeartbeats 4000000 in
theorem fd_put32 (T : TypeId) (G N p : Nat) (pre : List Int) (x : Int) (w : World) (h : Row8 T w G N pre) (hp : pre.length = p) (h4 : p + 4 ≤ N) (hx : 0 ≤ x ∧ x < 4294967296) (m : Nat) (hm : N - p = m) :
    Calls Tryd.prog 92 #[.slice (some ⟨G, p, none⟩) m m, .int .u32 x] w fun e w' => e = .returned (.tuple #[]) ∧ Row8 T w' G N (pre ++ be32 x) ∧ w.grownBy w' (some G) := by
  have H := Aside0.mk h
  have HP := Aside0.mk hp
  have HX := Aside0.mk hx
  have HM := Aside0.mk hm
  clear h hp hx hm
  go_enter Tryd.func92, Tryd.ntmps92
  go_wp2_with fail
  (with_reducible refine (bo_put32 T G N p pre x _ H.out HP.out h4 HX.out m HM.out).mono ?_)
  rintro e w1 ⟨rfl, h1, g1⟩
  have H1 := Aside0.mk h1
  have G1 := Aside0.mk g1
  clear h1 g1
  go_wp2_with fail
  go_end0
  exact ⟨rfl, H1.out, G1.out⟩

set_option maxHeartbeats 4000000 in
theorem fd_put64 (T : TypeId) (G N p : Nat) (pre : List Int) (x : Int) (w : World) (h : Row8 T w G N pre) (hp : pre.length = p) (h4 : p + 8 ≤ N) (hx : 0 ≤ x ∧ x < 18446744073709551616) (m : Nat) (hm : N - p = m) :
    Calls Tryd.prog 91 #[.slice (some ⟨G, p, none⟩) m m, .int .u64 x] w fun e w' => e = .returned (.tuple #[]) ∧ Row8 T w' G N (pre ++ be64 x) ∧ w.grownBy w' (some G) := by
  have H := Aside0.mk h
  have HP := Aside0.mk hp
  have HX := Aside0.mk hx
  have HM := Aside0.mk hm
  clear h hp hx hm
  go_enter Tryd.func91, Tryd.ntmps91
  go_wp2_with fail
  (with_reducible refine (bo_put64 T G N p pre x _ H.out HP.out h4 HX.out m HM.out).mono ?_)
  rintro e w1 ⟨rfl, h1, g1⟩
  have H1 := Aside0.mk h1
  have G1 := Aside0.mk g1
  clear h1 g1
  go_wp2_with fail
  go_end0
  exact ⟨rfl, H1.out, G1.out⟩
end Go.Proofs.YtodofpjdcongnaaDoor.Sign
end

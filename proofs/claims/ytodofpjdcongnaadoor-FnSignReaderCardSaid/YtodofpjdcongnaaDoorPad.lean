/- The padding of SHA-256: eighty, noughts, the length in bits. -/
import Derived.Test.YtodofpjdcongnaaDoorWri
import Derived.Test.YtodofpjdcongnaaDoorByo
namespace Go.Proofs.YtodofpjdcongnaaDoor.Sign
open Go.RowKit Go.Proofs.YtodofpjdcongnaaDoorW.PrintWords

set_option maxHeartbeats 4000000 in
set_option maxRecDepth 100000 in
theorem bo_put64c (T : TypeId) (G N p : Nat) (pre : List Int) (x : Int) (w : World) (h : Row8 T w G N pre) (hp : pre.length = p) (h4 : p + 8 ≤ N) (hx : 0 ≤ x ∧ x < 18446744073709551616) (m c : Nat) (hm4 : 8 ≤ m) :
    Calls Tryd.prog 94 #[.slice (some ⟨G, p, none⟩) m c, .int .u64 x] w fun e w' => e = .returned (.tuple #[]) ∧ Row8 T w' G N (pre ++ be64 x) ∧ w.grownBy w' (some G) := by
  have c0 := h.zero p (by omega) (by omega)
  have f0 := h.free p
  have c1 := h.zero (p + 1) (by omega) (by omega)
  have f1 := h.free (p + 1)
  have c2 := h.zero (p + 2) (by omega) (by omega)
  have f2 := h.free (p + 2)
  have c3 := h.zero (p + 3) (by omega) (by omega)
  have f3 := h.free (p + 3)
  have c4 := h.zero (p + 4) (by omega) (by omega)
  have f4 := h.free (p + 4)
  have c5 := h.zero (p + 5) (by omega) (by omega)
  have f5 := h.free (p + 5)
  have c6 := h.zero (p + 6) (by omega) (by omega)
  have f6 := h.free (p + 6)
  have c7 := h.zero (p + 7) (by omega) (by omega)
  have f7 := h.free (p + 7)
  have d0 : decide ((0 : Int) < (m : Int)) = true := decide_eq_true (by omega)
  have d1 : decide ((1 : Int) < (m : Int)) = true := decide_eq_true (by omega)
  have d2 : decide ((2 : Int) < (m : Int)) = true := decide_eq_true (by omega)
  have d3 : decide ((3 : Int) < (m : Int)) = true := decide_eq_true (by omega)
  have d4 : decide ((4 : Int) < (m : Int)) = true := decide_eq_true (by omega)
  have d5 : decide ((5 : Int) < (m : Int)) = true := decide_eq_true (by omega)
  have d6 : decide ((6 : Int) < (m : Int)) = true := decide_eq_true (by omega)
  have d7 : decide ((7 : Int) < (m : Int)) = true := decide_eq_true (by omega)
  obtain ⟨hx0, hx1⟩ := hx
  have H := Aside0.mk h
  have HP := Aside0.mk hp
  clear h hp
  go_enter Tryd.func94, Tryd.ntmps94
  go_wp2_with fail
  go_end0
  refine ⟨rfl, ?_, ?_⟩
  · have e : pre ++ be64 x = pre ++ [x / 72057594037927936] ++ [x / 281474976710656 % 256] ++ [x / 1099511627776 % 256] ++ [x / 4294967296 % 256] ++ [x / 16777216 % 256] ++ [x / 65536 % 256] ++ [x / 256 % 256] ++ [x % 256] := by
      rw [be64_eq x hx0 hx1]
      simp
    rw [e]
    have hp := HP.out
    have a1 := H.out.put (by omega) (x / 72057594037927936)
    have a2 := a1.put (by simp; omega) (x / 281474976710656 % 256)
    have a3 := a2.put (by simp; omega) (x / 1099511627776 % 256)
    have a4 := a3.put (by simp; omega) (x / 4294967296 % 256)
    have a5 := a4.put (by simp; omega) (x / 16777216 % 256)
    have a6 := a5.put (by simp; omega) (x / 65536 % 256)
    have a7 := a6.put (by simp; omega) (x / 256 % 256)
    have a8 := a7.put (by simp; omega) (x % 256)
    simp only [List.length_append, List.length_singleton, hp] at a8
    exact a8
  · exact ((((((((grown_put w G p _).trans (grown_put _ G _ _)).trans (grown_put _ G _ _)).trans (grown_put _ G _ _)).trans (grown_put _ G _ _)).trans (grown_put _ G _ _)).trans (grown_put _ G _ _)).trans (grown_put _ G _ _))
set_option maxHeartbeats 4000000 in
theorem fd_put64c (T : TypeId) (G N p : Nat) (pre : List Int) (x : Int) (w : World) (h : Row8 T w G N pre) (hp : pre.length = p) (h4 : p + 8 ≤ N) (hx : 0 ≤ x ∧ x < 18446744073709551616) (m c : Nat) (hm4 : 8 ≤ m) :
    Calls Tryd.prog 91 #[.slice (some ⟨G, p, none⟩) m c, .int .u64 x] w fun e w' => e = .returned (.tuple #[]) ∧ Row8 T w' G N (pre ++ be64 x) ∧ w.grownBy w' (some G) := by
  have H := Aside0.mk h
  have HP := Aside0.mk hp
  have HX := Aside0.mk hx
  clear h hp hx
  go_enter Tryd.func91, Tryd.ntmps91
  go_wp2_with fail
  (with_reducible refine (bo_put64c T G N p pre x _ H.out HP.out h4 HX.out m c hm4).mono ?_)
  rintro e w1 ⟨rfl, h1, g1⟩
  have H1 := Aside0.mk h1
  have G1 := Aside0.mk g1
  clear h1 g1
  go_wp2_with fail
  go_end0
  exact ⟨rfl, H1.out, G1.out⟩

theorem Row8.zeros {T : TypeId} {w : World} {G N : Nat} {pre : List Int} (h : Row8 T w G N pre) (m : Nat) (hm : pre.length + m ≤ N) : Row8 T w G N (pre ++ List.replicate m 0) := by
  refine ⟨by rw [List.length_append, List.length_replicate]; exact hm, h.2.trans ?_⟩
  rw [List.append_assoc, List.replicate_append_replicate, List.length_append, List.length_replicate]
  rw [show m + (N - (pre.length + m)) = N - pre.length by omega]

theorem Row8.at {T : TypeId} {w : World} {G N : Nat} {pre : List Int} (h : Row8 T w G N pre) (j : Nat) (hj : j < pre.length) : w.cell? ⟨G, j, none⟩ = some (.int .u8 (pre.getD j 0)) := by
  rw [blk_cell h.2, List.getElem?_toArray, nums_at, List.getElem?_append_left hj]
  simp [List.getD, List.getElem?_eq_getElem hj]

theorem Row8.grown {T : TypeId} {w w1 : World} {G N : Nat} {pre : List Int} {row : Option Nat} (h : Row8 T w G N pre) (hg : w.grownBy w1 row) (hr : some G ≠ row) : Row8 T w1 G N pre := ⟨h.1, blk_grown h.2 hg hr⟩

theorem be32_length (x : Int) : (be32 x).length = 4 := rfl
theorem be64_length (x : Int) : (be64 x).length = 8 := rfl
theorem B8.be32 (x : Int) : B8 (be32 x) := by
  intro y hy
  simp [Sign.be32] at hy
  omega
theorem B8.be64 (x : Int) : B8 (be64 x) := by
  unfold Sign.be64
  exact (B8.be32 _).append (B8.be32 _)
theorem B8.noughts (n : Nat) : B8 (List.replicate n 0) := by
  intro y hy
  rw [List.eq_of_mem_replicate hy]
  decide

def padT (k : Nat) : Nat := if k < 56 then 56 - k else 120 - k
/-- the padding: t bytes, and eight for the length in bits -/
def padF (t : Nat) (x : Int) : List Int := [128] ++ List.replicate (t - 1) 0 ++ be64 x
theorem padF_length (t : Nat) (x : Int) (ht : 0 < t) : (padF t x).length = t + 8 := by
  rw [padF, List.length_append, be64_length, List.length_append, List.length_replicate, List.length_singleton]
  omega
theorem B8.padF (t : Nat) (x : Int) : B8 (padF t x) := by
  refine (B8.append ?_ (B8.noughts _)).append (B8.be64 x)
  intro y hy
  rw [List.mem_singleton.1 hy]
  decide

/-- the eight words behind the padding p -/
def sumF (K hs xs : List Int) (k : Nat) (p : List Int) : List Int :=
  if k = 0 then blockF K p 1 hs else if k < 56 then blockF K (xs.take k ++ p) 1 hs else blockF K (p.drop (64 - k)) 1 (blockF K (xs.take k ++ p.take (64 - k)) 1 hs)

theorem write_pad (D T k t : Nat) (hs xs p K : List Int) (len : Int) (w : World) (hD : Dg w D hs xs k len) (hK : Wd w 43 4 K) (hk : k < 64) (ht : t = padT k + 8) (hp : p.length = t) (hx8 : B8 xs) (hp8 : B8 p) (hl : 0 ≤ len ∧ len ≤ 4096) (hDT : D ≠ T) (hD4 : D ≠ 4) (hT : T < w.heap.size) (hq : ∀ j, j < t → w.cell? ⟨T, j, none⟩ = some (.int .u8 (p.getD j 0))) :
    Calls Tryd.prog 85 #[.pointer (some ⟨D, 0, none⟩), .slice (some ⟨T, 0, none⟩) t 72] w fun e w' => e = .returned (.tuple #[.int .i64 t, .nilIface]) ∧ (∃ xs' len', Dg w' D (sumF K hs xs k p) xs' 0 len') ∧ w.grownBy w' (some D) := by
  by_cases h0 : k = 0
  · subst h0
    have ht : t = 64 := by rw [ht]; rfl
    subst ht
    refine (write0 D T 0 64 72 hs xs p K len w hD hK (by decide) hT hp8.at (by decide) (by decide) (by decide) hl hp hDT hD4 (fun j hj => by rw [Nat.zero_add]; exact hq j hj)).mono ?_
    rintro e w1 ⟨rfl, h, g⟩
    exact ⟨rfl, ⟨_, _, h⟩, g⟩
  · by_cases h56 : k < 56
    · have ht : t = 64 - k := by rw [ht, padT, if_pos h56]; omega
      refine (write1 D T 0 k t 72 hs xs p K len w hD hK (by omega) (by omega) (by omega) (by omega) hx8 hp8 (by decide) hl hp hDT hD4 (fun j hj => by rw [Nat.zero_add]; exact hq j hj)).mono ?_
      rintro e w1 ⟨rfl, h, g⟩
      have es : sumF K hs xs k p = blockF K (xs.take k ++ p) 1 hs := by rw [sumF, if_neg h0, if_pos h56]
      rw [es]
      exact ⟨rfl, ⟨_, _, h⟩, g⟩
    · have ht : t = (64 - k) + 64 := by rw [ht, padT, if_neg h56]; omega
      refine (write2 D T 0 k (64 - k) t 72 hs xs (p.take (64 - k)) (p.drop (64 - k)) K len w hD hK (by omega) (by omega) (by omega) ht (by omega) hx8 (hp8.take _) (hp8.drop _) (by decide) hl (by rw [List.length_take]; omega) hDT hD4 (fun j hj => ?_) (fun j hj => ?_) hT).mono ?_
      · rw [Nat.zero_add, hq j (by omega)]
        simp [List.getD, hj]
      · rw [Nat.zero_add, hq (64 - k + j) (by omega)]
        simp [List.getD, List.getElem?_drop]
      rintro e w1 ⟨rfl, h, g⟩
      have es : sumF K hs xs k p = blockF K (p.drop (64 - k)) 1 (blockF K (xs.take k ++ p.take (64 - k)) 1 hs) := by rw [sumF, if_neg h0, if_neg h56]
      rw [es]
      exact ⟨rfl, ⟨_, _, h⟩, g⟩

def W32 (l : List Int) : Prop := ∀ x ∈ l, 0 ≤ x ∧ x < 4294967296
theorem W32.chunk {K q : List Int} {p : Nat} {s : List Int × List Int} (h : W32 s.2) : W32 (chunk K q p s).2 := by
  unfold Sign.chunk
  split
  · intro x hx
    simp only [List.mem_cons, List.not_mem_nil, or_false] at hx
    omega
  · exact h
theorem W32.chunks {K q : List Int} {s : List Int × List Int} (h : W32 s.2) : ∀ m, W32 (chunks K q m s).2
  | 0 => h
  | m + 1 => W32.chunk (W32.chunks h m)
theorem W32.blockF {K q hs : List Int} (h : W32 hs) (m : Nat) : W32 (blockF K q m hs) := W32.chunks (s := (Sign.noughts 64, hs)) h m
theorem W32.sumF {K hs xs p : List Int} {k : Nat} (h : W32 hs) : W32 (sumF K hs xs k p) := by
  unfold Sign.sumF
  split
  · exact h.blockF 1
  · split
    · exact h.blockF 1
    · exact (h.blockF 1).blockF 1
end Go.Proofs.YtodofpjdcongnaaDoor.Sign

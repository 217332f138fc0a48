/- SHA-256 as the program reckons it: plain lists of numbers; the table is whatever it is. -/
import Derived.Test.YtodofpjdcongnaaDoorDgs
namespace Go.Proofs.YtodofpjdcongnaaDoor.Sign
open Go.RowKit Go.Proofs.YtodofpjdcongnaaDoorW.PrintWords

/-- a block of sixty-four words -/
structure Wd (w : World) (T : TypeId) (B : Nat) (ws : List Int) : Prop where
  len : ws.length = 64
  blk : w.heap[B]? = some (.cells (nums .u32 ws).toArray T (0, 0))

theorem zero43 : ((Tryd.prog.info? 43).bind (·.zero)).map (·.cells) = some (nums .u32 (noughts 64)).toArray := by kernel_rfl

theorem Dg.below {w w1 : World} {D : Nat} {hs xs : List Int} {nx len : Int} (h : Dg w D hs xs nx len) (hb : Below w.heap.size w w1) : Dg w1 D hs xs nx len := ⟨h.h8, h.x64, (hb.block D (blk_lt h.blk)).trans h.blk⟩

theorem Wd.cell {w : World} {T : TypeId} {B : Nat} {ws : List Int} (h : Wd w T B ws) (j : Nat) (hj : j < 64) : w.cell? ⟨B, j, none⟩ = some (.int .u32 (ws.getD j 0)) := by
  have hl : j < ws.length := by rw [h.len]; exact hj
  rw [blk_cell h.blk, List.getElem?_toArray, nums_at]
  simp [List.getD, List.getElem?_eq_getElem hl]

theorem rot_left' (x k : Int) (s : Nat) (hs : bits .and .u64 (IntKind.u64.wrap k) 31 = (s : Int)) (h2 : s ≤ 31) (w : World) : Calls Tryd.prog 93 #[.int .u32 x, .int .i64 k] w fun e w' => e = .returned (.int .u32 (rotl x s)) ∧ w = w' :=
  (rot_left x k s hs h2 w).mono fun _ _ ⟨h, k⟩ => ⟨h, k.symm⟩

def cnt (k : Int) : Nat := (bits .and .u64 (IntKind.u64.wrap k) 31).toNat
theorem rot_any (x k : Int) (h : k ∈ [-6, -11, -25]) (w : World) : Calls Tryd.prog 93 #[.int .u32 x, .int .i64 k] w fun e w' => e = .returned (.int .u32 (rotl x (cnt k))) ∧ w' = w := by
  simp only [List.mem_cons, List.not_mem_nil, or_false] at h
  rcases h with rfl | rfl | rfl
  · exact rot_left x _ _ (by kernel_rfl) (by decide) w
  · exact rot_left x _ _ (by kernel_rfl) (by decide) w
  · exact rot_left x _ _ (by kernel_rfl) (by decide) w

theorem Wd.put {w : World} {T : TypeId} {B : Nat} {ws : List Int} (h : Wd w T B ws) (j : Nat) (v : Int) : Wd (w.setCell ⟨B, j, none⟩ (.int .u32 v)) T B (ws.set j v) := by
  refine ⟨by rw [List.length_set]; exact h.len, blk_put h.blk j _ ?_⟩
  rw [List.setIfInBounds_toArray, nums_set]

def word4 (e0 e1 e2 e3 : Int) : Int := bits .or .u32 (bits .or .u32 (bits .or .u32 (e0 * 16777216) (e1 * 65536)) (e2 * 256)) e3
def sig0 (g : Int) : Int := bits .xor .u32 (bits .xor .u32 (rotl g 15) (rotl g 13)) (g / 1024)
def sig1 (g : Int) : Int := bits .xor .u32 (bits .xor .u32 (rotl g 25) (rotl g 14)) (g / 8)
def wordx (g2 g7 g15 g16 : Int) : Int := (((sig0 g2 + g7) % 4294967296 + sig1 g15) % 4294967296 + g16) % 4294967296
def word (q us : List Int) (p i : Nat) : Int :=
  if i < 16 then word4 (q.getD (p + i * 4) 0) (q.getD (p + (i * 4 + 1)) 0) (q.getD (p + (i * 4 + 2)) 0) (q.getD (p + (i * 4 + 3)) 0)
  else wordx (us.getD (i - 2) 0) (us.getD (i - 7) 0) (us.getD (i - 15) 0) (us.getD (i - 16) 0)

def t1of (y4 y5 y6 y7 kk W : Int) : Int := ((y7 + bits .xor .u32 (bits .xor .u32 (rotl y4 (cnt (-6))) (rotl y4 (cnt (-11)))) (rotl y4 (cnt (-25))) + bits .xor .u32 (bits .and .u32 y4 y5) (bits .and .u32 (bits .xor .u32 (if IntKind.u32.signed = true then -1 else IntKind.u32.max) y4) y6) + kk) % 4294967296 + W) % 4294967296
def t2of (y0 y1 y2 : Int) : Int := (bits .xor .u32 (bits .xor .u32 (rotl y0 30) (rotl y0 19)) (rotl y0 10) + bits .xor .u32 (bits .xor .u32 (bits .and .u32 y0 y1) (bits .and .u32 y0 y2)) (bits .and .u32 y1 y2)) % 4294967296

/-- one round: the words of the schedule, the eight words at hand -/
def stp (K q : List Int) (p i : Nat) : List Int × List Int → List Int × List Int
  | (us, [y0, y1, y2, y3, y4, y5, y6, y7]) =>
    (us.set i (word q us p i), [(t1of y4 y5 y6 y7 (K.getD i 0) (word q us p i) + t2of y0 y1 y2) % 4294967296, y0, y1, y2, (y3 + t1of y4 y5 y6 y7 (K.getD i 0) (word q us p i)) % 4294967296, y4, y5, y6])
  | s => s
def rnds (K q : List Int) (p : Nat) : Nat → List Int × List Int → List Int × List Int
  | 0, s => s
  | i + 1, s => stp K q p i (rnds K q p i s)
/-- sixty-four bytes, those at p -/
def chunk (K q : List Int) (p : Nat) (s : List Int × List Int) : List Int × List Int :=
  match s.2, (rnds K q p 64 s).2 with
  | [x0, x1, x2, x3, x4, x5, x6, x7], [y0, y1, y2, y3, y4, y5, y6, y7] => ((rnds K q p 64 s).1, [(x0 + y0) % 4294967296, (x1 + y1) % 4294967296, (x2 + y2) % 4294967296, (x3 + y3) % 4294967296, (x4 + y4) % 4294967296, (x5 + y5) % 4294967296, (x6 + y6) % 4294967296, (x7 + y7) % 4294967296])
  | _, _ => s
def chunks (K q : List Int) : Nat → List Int × List Int → List Int × List Int
  | 0, s => s
  | j + 1, s => chunk K q (64 * j) (chunks K q j s)
/-- what the eight words are behind m times sixty-four bytes -/
def blockF (K q : List Int) (m : Nat) (hs : List Int) : List Int := (chunks K q m (noughts 64, hs)).2

theorem eight (hs : List Int) (h : hs.length = 8) : ∃ h0 h1 h2 h3 h4 h5 h6 h7 : Int, hs = [h0, h1, h2, h3, h4, h5, h6, h7] := by
  match hs, h with
  | [h0, h1, h2, h3, h4, h5, h6, h7], _ => exact ⟨h0, h1, h2, h3, h4, h5, h6, h7, rfl⟩

theorem Dg.drew {w : World} {D : Nat} {hs xs : List Int} {nx len : Int} (h : Dg w D hs xs nx len) : Dg w.drew D hs xs nx len := ⟨h.h8, h.x64, h.blk⟩
theorem Wd.drew {w : World} {T : TypeId} {B : Nat} {ws : List Int} (h : Wd w T B ws) : Wd w.drew T B ws := ⟨h.len, h.blk⟩
theorem Wd.drewN {w : World} {T : TypeId} {B : Nat} {ws : List Int} (h : Wd w T B ws) (n : Nat) : Wd (w.drewN n) T B ws := ⟨h.len, h.blk⟩
theorem grown_drew (w : World) (row : Option Nat) : w.grownBy w.drew row := ⟨rfl, rfl, rfl, Nat.le_refl _, fun _ _ _ => rfl⟩
theorem grown_fresh {w w1 : World} {B : Nat} (h : w.grownBy w1 (some B)) (hB : w.heap.size ≤ B) (row : Option Nat) : w.grownBy w1 row :=
  ⟨h.os, h.tape, h.output, h.size, fun k hk _ => h.block k hk (fun e => by have e : k = B := Option.some.inj e; omega)⟩

theorem Wd.grown {w w1 : World} {T : TypeId} {B : Nat} {ws : List Int} {row : Option Nat} (h : Wd w T B ws) (hg : w.grownBy w1 row) (hr : some B ≠ row) : Wd w1 T B ws := ⟨h.len, blk_grown h.blk hg hr⟩

theorem blockF_zero (K q hs : List Int) : blockF K q 0 hs = hs := rfl

def allAnd : Nat → Bool
  | 0 => true
  | n + 1 => decide (bits .andNot .i64 (n : Int) 63 = ((64 * (n / 64) : Nat) : Int)) && allAnd n
theorem allAnd_ok : allAnd 4097 = true := by kernel_rfl
theorem allAnd_at (m : Nat) (h : allAnd m = true) : ∀ n, n < m → bits .andNot .i64 (n : Int) 63 = ((64 * (n / 64) : Nat) : Int) := by
  induction m with
  | zero => intro n hn; omega
  | succ m ih =>
    intro n hn
    rw [allAnd, Bool.and_eq_true, decide_eq_true_eq] at h
    by_cases e : n = m
    · rw [e]; exact h.1
    · exact ih h.2 n (by omega)
theorem and63 (n : Nat) (h : n ≤ 4096) : bits .andNot .i64 (n : Int) 63 = ((64 * (n / 64) : Nat) : Int) := allAnd_at 4097 allAnd_ok n (by omega)
end Go.Proofs.YtodofpjdcongnaaDoor.Sign

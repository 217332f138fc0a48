/- How long a signature is, and the bytes of its head. -/
import Derived.Test.YtodofpjdcongnaaDoorTwo
import Derived.Test.YtodofpjdcongnaaDoorParts
namespace Go.Proofs.YtodofpjdcongnaaDoor.Sign
open Go.RowKit Go.Proofs.YtodofpjdcongnaaDoorW.PrintWords Go.Proofs.YtodofpjdcongnaaDoor.PFnSignHeaders

/-- how long a signature is -/
def szN (n : Nat) (id : ByteArray) : Nat := 109 + id.size + (n + 4095) / 4096 * 32

theorem size_is (n : Nat) (id : ByteArray) (hn : n ≤ 2147483648) (hid : id.size ≤ 2147483647) : codesign_Size.f (n : Int) id = some (szN n id : Int) := by
  unfold codesign_Size.f
  have e0 : wrap64 (wrap64 ((n : Int) + 4096) - 1) = (n : Int) + 4095 := by unfold wrap64; omega
  have e1 : Int.tdiv ((n : Int) + 4095) 4096 = ((n + 4095) / 4096 : Nat) := by
    rw [Int.tdiv_eq_ediv_of_nonneg (by omega)]; omega
  rw [e0, e1]
  obtain ⟨k, hk2⟩ : ∃ k, k = (n + 4095) / 4096 := ⟨_, rfl⟩
  have hk : k ≤ 1048576 := by omega
  unfold szN
  rw [← hk2]
  clear e0 e1 hk2
  have e3 : wrap64 ((id.size : Int) + 1) = (id.size : Int) + 1 := by unfold wrap64; omega
  have e4 : wrap64 (88 + ((id.size : Int) + 1)) = (id.size : Int) + 89 := by unfold wrap64; omega
  have e5 : wrap64 (((k : Nat) : Int)) = (k : Int) := by unfold wrap64; omega
  have e6 : wrap64 ((k : Int) * 32) = (k : Int) * 32 := by unfold wrap64; omega
  have e7 : wrap64 ((id.size : Int) + 89 + (k : Int) * 32) = (id.size : Int) + 89 + (k : Int) * 32 := by unfold wrap64; omega
  have e8 : wrap64 (20 + ((id.size : Int) + 89 + (k : Int) * 32)) = 20 + ((id.size : Int) + 89 + (k : Int) * 32) := by unfold wrap64; omega
  rw [e3, e4, e5, e6, e7, e8]
  congr 1
  push_cast
  omega

theorem St.below {w w1 : World} {G N : Nat} {pre : List Int} (h : St w G N pre) (hb : Below w.heap.size w w1) : St w1 G N pre := ⟨h.1, (hb.block G (blk_lt h.2)).trans h.2⟩

theorem wrap_b (x : Int) : 0 ≤ IntKind.u64.wrap x ∧ IntKind.u64.wrap x < 18446744073709551616 := by
  show 0 ≤ x % 18446744073709551616 ∧ x % 18446744073709551616 < 18446744073709551616
  omega

/-- the headers of a signature -/
def hdr (n : Nat) (id : ByteArray) (from_ long : Int) (main : Bool) : List Int :=
  (be32 4208856256 ++ (be32 (szN n id : Int) ++ (be32 1))) ++ (be32 0 ++ (be32 20)) ++
    (be32 4208856066 ++ (be32 ((szN n id : Int) - 20) ++ (be32 132096 ++ (be32 131074 ++ (be32 (88 + ((id.size : Int) + 1)) ++ (be32 88 ++ (be32 0 ++ (be32 (((n : Int) + 4096 - 1) / 4096) ++ (be32 n ++ ([32] ++ ([2] ++ ([0] ++ ([12] ++ (be32 0 ++ (be32 0 ++ (be32 0 ++ (be32 0 ++ (be64 0 ++ (be64 (IntKind.u64.wrap from_) ++ (be64 (IntKind.u64.wrap long) ++ (be64 (if main then 1 else 0)))))))))))))))))))))) ++
    bytesOf (id ++ ⟨#[0]⟩)

end Go.Proofs.YtodofpjdcongnaaDoor.Sign

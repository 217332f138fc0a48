/- The check of a known answer: ExpandEnv of $a, a being b. -/
import Derived.Test.YtopmkiadoacipaaVars
import Derived.Test.YtopmkiadoacipaaEnv
namespace Go.Proofs.Ytopmkiadoacipaa.FixEnv
open Go.RowKit Go.Proofs.YtopmkiadoacipaaW.PrintWords Go.Proofs.Ytopmkiadoacipaa.PFnExpandMade Go.Proofs.Ytopmkiadoacipaa.Tab Go.Proofs.Ytopmkiadoacipaa.Xp Go.Proofs.Ytopmkiadoacipaa.Each

/-- ExpandEnv with two lists that have just been laid -/
theorem env_lits (w : World) (l0 l1 : List ByteArray) (s tot : ByteArray) (h0 : l0.length ≤ 281474976710656) (h1 : l1.length ≤ 281474976710656) (hs0 : ∀ s ∈ l0, s.size ≤ 281474976710656) (hs1 : ∀ s ∈ l1, s.size ≤ 281474976710656)
    (hs : s.size ≤ 35184372088832) (ht : tot.size ≤ 70368744177664) (hx : Ex (tabv l0 l1) s 0 tot) :
    Calls Try.prog 20 #[.slice (some ⟨w.heap.size, 0, none⟩) l0.length l0.length, .slice (some ⟨w.heap.size + 1, 0, none⟩) l1.length l1.length, .string s, .bool false] ((w.alloc (.cells (encs Value.string l0).toArray 9)).alloc (.cells (encs Value.string l1).toArray 9))
    fun e w' => e = .returned (.string tot) ∧ Below w.heap.size w w' := by
  have hb1 : Below w.heap.size w (w.alloc (.cells (encs Value.string l0).toArray 9)) := below_alloc (Below.refl _ _) _
  have hb2 : Below w.heap.size w ((w.alloc (.cells (encs Value.string l0).toArray 9)).alloc (.cells (encs Value.string l1).toArray 9)) := hb1.alloc hb1.size _
  have hz : (w.alloc (.cells (encs Value.string l0).toArray 9)).heap.size = w.heap.size + 1 := by simp
  have r0 := rd_lit w l0 h0
  have r1 := rd_lit (w.alloc (.cells (encs Value.string l0).toArray 9)) l1 h1
  rw [hz] at r1
  refine (env_is (some ⟨w.heap.size, 0, none⟩) (some ⟨w.heap.size + 1, 0, none⟩) l0.length l1.length l0 l1 s tot _ (r0.below (by exact (Below.refl _ _).alloc (Nat.le_refl _) _)) r1 h0 h1 hs0 hs1 hs ht hx).mono ?_
  rintro e w' ⟨rfl, hb⟩
  exact ⟨rfl, below_then hb2 hb2.size hb⟩

/-- the check of a known answer: ExpandEnv of $a, a being b -/
theorem fixed_env (w : World) : Calls Try.prog 20 #[.slice (some ⟨w.heap.size, 0, none⟩) 1 1, .slice (some ⟨w.heap.size + 1, 0, none⟩) 1 1, .string ⟨#[36, 97]⟩, .bool false] ((w.alloc (.cells #[.string ⟨#[97]⟩] 9)).alloc (.cells #[.string ⟨#[98]⟩] 9))
    fun e w' => e = .returned (.string ⟨#[98]⟩) ∧ Below w.heap.size w w' :=
  env_lits w [⟨#[97]⟩] [⟨#[98]⟩] ⟨#[36, 97]⟩ ⟨#[98]⟩ (by decide) (by decide) (fun s h => by rw [List.mem_singleton] at h; subst h; decide) (fun s h => by rw [List.mem_singleton] at h; subst h; decide) (by decide) (by decide) fixed_ex

end Go.Proofs.Ytopmkiadoacipaa.FixEnv

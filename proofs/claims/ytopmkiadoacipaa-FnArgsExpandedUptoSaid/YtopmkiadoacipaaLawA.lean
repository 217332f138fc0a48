/- The law FnExpandBraces: the walk. -/
import Derived.Test.YtopmkiadoacipaaImpl
import Derived.Test.YtopmkiadoacipaaXpPlain
import Derived.Test.YtopmkiadoacipaaWGuard
namespace Go.Proofs.Ytopmkiadoacipaa.Xp
open Go.RowKit Go.Proofs.YtopmkiadoacipaaW.PrintWords Go.Proofs.Ytopmkiadoacipaa.PFnExpandMade Go.Proofs.Ytopmkiadoacipaa.Tab

theorem rd_lit (W : World) (l : List ByteArray) (hl : l.length ≤ 281474976710656) : Rd (W.alloc (.cells (encs Value.string l).toArray 9)) (some ⟨W.heap.size, 0, none⟩) l.length l := by
  obtain ⟨A, c2, he, _, hr1⟩ := own_reads_of_le (d := ByteArray.empty) (own_lit_of (enc := Value.string) W W.heap.size 9 l (Nat.le_refl _) (by omega))
  injection he with he1 he2
  subst he1
  exact hr1

theorem fixed_ex : Ex (tabv [⟨#[97]⟩] [⟨#[98]⟩]) ⟨#[36, 97]⟩ 0 ⟨#[98]⟩ := by
  have h := ex_var (tabv [⟨#[97]⟩] [⟨#[98]⟩]) ⟨#[97]⟩ ByteArray.empty ByteArray.empty (by decide) (by decide) (fun j h1 h2 => by
    have : j = 0 := by have : (⟨#[97]⟩ : ByteArray).size = 1 := rfl; omega
    subst this; decide) (by decide) (fun h => by cases h) (ex_nil _)
  exact h

/-- Expand with two lists that have just been laid -/
theorem impl_lits (w : World) (l0 l1 : List ByteArray) (s tot : ByteArray) (h0 : l0.length ≤ 281474976710656) (h1 : l1.length ≤ 281474976710656) (hs0 : ∀ s ∈ l0, s.size ≤ 281474976710656) (hs1 : ∀ s ∈ l1, s.size ≤ 281474976710656)
    (hs : s.size ≤ 35184372088832) (ht : tot.size ≤ 70368744177664) (hx : Ex (tabv l0 l1) s 0 tot) :
    Calls Try.prog 12 #[.slice (some ⟨w.heap.size, 0, none⟩) l0.length l0.length, .slice (some ⟨w.heap.size + 1, 0, none⟩) l1.length l1.length, .string s] ((w.alloc (.cells (encs Value.string l0).toArray 9)).alloc (.cells (encs Value.string l1).toArray 9))
    fun e w' => e = .returned (.string tot) ∧ Below w.heap.size w w' := by
  have hb1 : Below w.heap.size w (w.alloc (.cells (encs Value.string l0).toArray 9)) := below_alloc (Below.refl _ _) _
  have hb2 : Below w.heap.size w ((w.alloc (.cells (encs Value.string l0).toArray 9)).alloc (.cells (encs Value.string l1).toArray 9)) := hb1.alloc hb1.size _
  have hz : (w.alloc (.cells (encs Value.string l0).toArray 9)).heap.size = w.heap.size + 1 := by simp
  have r0 := rd_lit w l0 h0
  have r1 := rd_lit (w.alloc (.cells (encs Value.string l0).toArray 9)) l1 h1
  rw [hz] at r1
  refine (impl_is (some ⟨w.heap.size, 0, none⟩) (some ⟨w.heap.size + 1, 0, none⟩) l0.length l1.length l0 l1 s tot _ (r0.below (by exact (Below.refl _ _).alloc (Nat.le_refl _) _)) r1 h0 h1 hs0 hs1 hs ht hx).mono ?_
  rintro e w' ⟨rfl, hb⟩
  exact ⟨rfl, below_then hb2 hb2.size hb⟩

/-- the check of a known answer: Expand of $a, a being b -/
theorem fixed_is (w : World) : Calls Try.prog 12 #[.slice (some ⟨w.heap.size, 0, none⟩) 1 1, .slice (some ⟨w.heap.size + 1, 0, none⟩) 1 1, .string ⟨#[36, 97]⟩] ((w.alloc (.cells #[.string ⟨#[97]⟩] 9)).alloc (.cells #[.string ⟨#[98]⟩] 9))
    fun e w' => e = .returned (.string ⟨#[98]⟩) ∧ Below w.heap.size w w' :=
  impl_lits w [⟨#[97]⟩] [⟨#[98]⟩] ⟨#[36, 97]⟩ ⟨#[98]⟩ (by decide) (by decide) (fun s h => by rw [List.mem_singleton] at h; subst h; decide) (fun s h => by rw [List.mem_singleton] at h; subst h; decide) (by decide) (by decide) fixed_ex

theorem has_some (s : ByteArray) (c : Int) (hs : s.size ≤ 281474976710656) : ∃ b, spec_ScHas.f (s.size + 1) s c = some b ∧ (b = false → ∀ j : Int, 0 ≤ j → j < s.size → bt s j ≠ c) := by
  obtain ⟨b, h1, h2⟩ := has_tells s c (by omega) s.size (s.size + 1) 0 (by omega) (by omega) (by omega) (by omega)
  exact ⟨b, h1, h2⟩

theorem braces_ex (name value front back : ByteArray) (hs : name.size + back.size ≤ 281474976710656) (h0 : 0 < name.size) (hn : ∀ j : Int, 0 ≤ j → j < name.size → bt name j ≠ 125)
    (hf : ∀ j : Int, 0 ≤ j → j < front.size → bt front j ≠ 36) (hb : ∀ j : Int, 0 ≤ j → j < back.size → bt back j ≠ 36) :
    Ex (tabv [name] [value]) (front ++ (⟨#[36, 123]⟩ : ByteArray) ++ name ++ (⟨#[125]⟩ : ByteArray) ++ back) 0 (front ++ value ++ back) := by
  have h1 := ex_plain (tabv [name] [value]) back ByteArray.empty ByteArray.empty (fun j hj => hb j (by omega) (by omega)) (ex_nil _)
  have h2 := ex_brace (tabv [name] [value]) name (back ++ ByteArray.empty) (back ++ ByteArray.empty) (by rw [ByteArray.size_append]; simpa using hs) h0 hn h1
  have h3 := ex_plain (tabv [name] [value]) front _ _ (fun j hj => hf j (by omega) (by omega)) h2
  have e1 : tabv [name] [value] name = value := by simp [tabv, tab]
  have e2 : (⟨#[36, 123]⟩ : ByteArray) = ds ++ lb := rfl
  rw [e1] at h3
  rw [e2]
  simpa only [ByteArray.append_assoc, ByteArray.append_empty] using h3

end Go.Proofs.Ytopmkiadoacipaa.Xp

/- The walk of impl.Expand. -/
import Derived.Test.YtopmkiadoacipaaXp
namespace Go.Proofs.Ytopmkiadoacipaa.Xp
open Go.RowKit Go.Proofs.YtopmkiadoacipaaW.PrintWords Go.Proofs.Ytopmkiadoacipaa.Tab

set_option maxHeartbeats 4000000 in
set_option maxRecDepth 100000 in
theorem impl_is (A0 A1 : Option Addr) (c0 c1 : Nat) (l0 l1 : List ByteArray) (s tot : ByteArray) (w : World) (h0 : Rd w A0 l0.length l0) (h1 : Rd w A1 l1.length l1) (hl0 : l0.length ≤ 281474976710656) (hl1 : l1.length ≤ 281474976710656)
    (hs0 : ∀ s ∈ l0, s.size ≤ 281474976710656) (hs1 : ∀ s ∈ l1, s.size ≤ 281474976710656) (hs : s.size ≤ 35184372088832) (ht : tot.size ≤ 70368744177664) (hx : Ex (tabv l0 l1) s 0 tot) :
    Calls Try.prog 12 #[.slice A0 l0.length c0, .slice A1 l1.length c1, .string s] w fun e w' => e = .returned (.string tot) ∧ Below w.heap.size w w' := by
  have H0 := Aside0.mk h0
  have H1 := Aside0.mk h1
  have HS0 := Aside0.mk hs0
  have HS1 := Aside0.mk hs1
  have HX := Aside0.mk hx
  clear h0 h1 hs0 hs1 hx
  go_enter Try.func12, Try.ntmps12
  go_wp2_with fail
  (with_reducible refine (table_is A0 A1 c0 c1 l0 l1 _ H0.out H1.out hl0 hl1 HS0.out HS1.out).mono ?_)
  rintro e w1 ⟨rfl, hm, hb⟩
  have HM := Aside0.mk hm
  have HB := Aside0.mk hb
  clear hm hb
  go_wp2_with fail
  have hb1 : Below w.heap.size w (w1.alloc (.cells #[.map (some w.heap.size)] 44)) := HB.out.alloc HB.out.size _
  have hcell : (w1.alloc (.cells #[.map (some w.heap.size)] 44)).cell? ⟨w1.heap.size, 0, none⟩ = some (.map (some w.heap.size)) := by
    rw [World.cell?_alloc_at _ _ _ _ rfl]; rfl
  have hb2 : Below w1.heap.size w1 (w1.alloc (.cells #[.map (some w.heap.size)] 44)) := (Below.refl _ w1).alloc (Nat.le_refl _) _
  (with_reducible refine (expand_is w1.heap.size w.heap.size l0.length (tabv l0 l1) s tot _ hcell (HM.out.kept hb2 HM.out.lt) hs ht HX.out).mono ?_)
  rintro e w2 ⟨rfl, b2⟩
  have HB2 := Aside0.mk (below_then hb1 hb1.size b2)
  clear b2 hb1 hb2 hcell
  go_wp2_with fail
  go_ret
  exact ⟨rfl, HB2.out⟩

end Go.Proofs.Ytopmkiadoacipaa.Xp

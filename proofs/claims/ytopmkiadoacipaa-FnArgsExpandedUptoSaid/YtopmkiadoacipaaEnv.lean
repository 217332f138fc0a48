/- impl.ExpandEnv outside a regular expression. -/
import Derived.Test.YtopmkiadoacipaaXp39
namespace Go.Proofs.Ytopmkiadoacipaa.Xp
open Go.RowKit Go.Proofs.YtopmkiadoacipaaW.PrintWords Go.Proofs.Ytopmkiadoacipaa.Tab

set_option maxHeartbeats 4000000 in
set_option maxRecDepth 100000 in
theorem closure39_is (g3 g5 gs b n : Nat) (f : ByteArray → ByteArray) (s : ByteArray) (w : World) (h3 : w.cell? ⟨g3, 0, none⟩ = some (.pointer (some ⟨gs, 0, none⟩))) (h5 : w.cell? ⟨g5, 0, none⟩ = some (.bool false))
    (hs : w.cell? ⟨gs, 0, none⟩ = some (.map (some b))) (hm : MapIs w b n f) (hz : s.size ≤ 281474976710656) :
    Calls Try.prog 39 #[.string s, .pointer (some ⟨g3, 0, none⟩), .pointer (some ⟨g5, 0, none⟩)] w fun e w' => e = .returned (.string (f s)) ∧ Below w.heap.size w w' := by
  have HL := hm.look s hz
  clear hm
  go_enter Try.func39, Try.ntmps39
  go_wp2_with fail
  go_ret
  exact ⟨rfl, Below.refl _ _⟩

set_option maxHeartbeats 4000000 in
set_option maxRecDepth 100000 in
theorem state_is (gs b n : Nat) (f : ByteArray → ByteArray) (s tot : ByteArray) (w : World) (hs : w.cell? ⟨gs, 0, none⟩ = some (.map (some b))) (hm : MapIs w b n f) (hz : s.size ≤ 35184372088832) (ht : tot.size ≤ 70368744177664) (hx : Ex f s 0 tot) :
    Calls Try.prog 34 #[.pointer (some ⟨gs, 0, none⟩), .string s, .bool false] w fun e w' => e = .returned (.string tot) ∧ Below w.heap.size w w' := by
  have HS := Aside0.mk hs
  have HM := Aside0.mk hm
  have HX := Aside0.mk hx
  clear hs hm hx
  go_enter Try.func34, Try.ntmps34
  go_wp2_with fail
  have hb1 : Below w.heap.size w (w.alloc (.cells #[.pointer (some ⟨gs, 0, none⟩)] 62)) := below_alloc (Below.refl _ _) _
  have hb2 : Below w.heap.size w ((w.alloc (.cells #[.pointer (some ⟨gs, 0, none⟩)] 62)).alloc (.cells #[.bool false] 4)) := hb1.alloc hb1.size _
  have hz1 : (w.alloc (.cells #[.pointer (some ⟨gs, 0, none⟩)] 62)).heap.size = w.heap.size + 1 := by simp
  have hz2 : ((w.alloc (.cells #[.pointer (some ⟨gs, 0, none⟩)] 62)).alloc (.cells #[.bool false] 4)).heap.size = w.heap.size + 2 := by simp
  have h3 : ((w.alloc (.cells #[.pointer (some ⟨gs, 0, none⟩)] 62)).alloc (.cells #[.bool false] 4)).cell? ⟨w.heap.size, 0, none⟩ = some (.pointer (some ⟨gs, 0, none⟩)) := by go_simp
  have h5 : ((w.alloc (.cells #[.pointer (some ⟨gs, 0, none⟩)] 62)).alloc (.cells #[.bool false] 4)).cell? ⟨w.heap.size + 1, 0, none⟩ = some (.bool false) := by
    rw [World.cell?_alloc_at _ _ _ _ hz1.symm]; rfl
  obtain ⟨w2, hw2⟩ : ∃ w2, w2 = ((w.alloc (.cells #[.pointer (some ⟨gs, 0, none⟩)] 62)).alloc (.cells #[.bool false] 4)) := ⟨_, rfl⟩
  rw [← hw2] at hb2 hz2 h3 h5
  have hlt : gs < w.heap.size := World.block_lt_of_cell? w _ HS.out
  have hsz := hb2.size
  have hcl : ∀ (name : ByteArray) (W : World), name.size ≤ 281474976710656 → Below w2.heap.size w2 W → Calls Try.prog 39 #[.string name, .pointer (some ⟨w.heap.size, 0, none⟩), .pointer (some ⟨w.heap.size + 1, 0, none⟩)] W fun e w' => e = .returned (.string (f name)) ∧ Below W.heap.size W w' := fun name W hn hb =>
    closure39_is w.heap.size (w.heap.size + 1) gs b n f name W ((hb.cell (p := ⟨w.heap.size, 0, none⟩) (by show w.heap.size < w2.heap.size; omega)).trans h3) ((hb.cell (p := ⟨w.heap.size + 1, 0, none⟩) (by show w.heap.size + 1 < w2.heap.size; omega)).trans h5)
      ((hb.cell (p := ⟨gs, 0, none⟩) (by show gs < w2.heap.size; omega)).trans ((hb2.cell (p := ⟨gs, 0, none⟩) hlt).trans HS.out)) ((HM.out.kept hb2 HM.out.lt).kept hb (Nat.lt_of_lt_of_le HM.out.lt hsz)) hn
  rw [← hw2]
  clear hw2 hb1 hz1
  have HB := Aside0.mk hb2
  have HC := Aside0.mk hcl
  clear hb2 hcl h3 h5
  (with_reducible refine (expand39_is w.heap.size (w.heap.size + 1) f s tot w2 HC.out hz ht HX.out).mono ?_)
  rintro e w3 ⟨rfl, b3⟩
  have HB3 := Aside0.mk (below_then HB.out hsz b3)
  clear b3
  go_wp2_with fail
  go_ret
  exact ⟨rfl, HB3.out⟩

set_option maxHeartbeats 4000000 in
set_option maxRecDepth 100000 in
theorem door_is (b n : Nat) (f : ByteArray → ByteArray) (s tot : ByteArray) (w : World) (hm : MapIs w b n f) (hz : s.size ≤ 35184372088832) (ht : tot.size ≤ 70368744177664) (hx : Ex f s 0 tot) :
    Calls Try.prog 30 #[.map (some b), .string s, .bool false] w fun e w' => e = .returned (.string tot) ∧ Below w.heap.size w w' := by
  have HM := Aside0.mk hm
  have HX := Aside0.mk hx
  clear hm hx
  go_enter Try.func30, Try.ntmps30
  go_wp2_with fail
  have hb1 : Below w.heap.size w (w.alloc (.cells #[.map (some b)] 64)) := below_alloc (Below.refl _ _) _
  have hcell : (w.alloc (.cells #[.map (some b)] 64)).cell? ⟨w.heap.size, 0, none⟩ = some (.map (some b)) := by
    rw [World.cell?_alloc_at _ _ _ _ rfl]; rfl
  (with_reducible refine (state_is w.heap.size b n f s tot _ hcell (HM.out.kept hb1 HM.out.lt) hz ht HX.out).mono ?_)
  rintro e w3 ⟨rfl, b3⟩
  have HB3 := Aside0.mk (below_then hb1 hb1.size b3)
  clear b3 hb1 hcell
  go_wp2_with fail
  go_ret
  exact ⟨rfl, HB3.out⟩

set_option maxHeartbeats 4000000 in
set_option maxRecDepth 100000 in
theorem env_is (A0 A1 : Option Addr) (c0 c1 : Nat) (l0 l1 : List ByteArray) (s tot : ByteArray) (w : World) (h0 : Rd w A0 l0.length l0) (h1 : Rd w A1 l1.length l1) (hl0 : l0.length ≤ 281474976710656) (hl1 : l1.length ≤ 281474976710656)
    (hs0 : ∀ s ∈ l0, s.size ≤ 281474976710656) (hs1 : ∀ s ∈ l1, s.size ≤ 281474976710656) (hs : s.size ≤ 35184372088832) (ht : tot.size ≤ 70368744177664) (hx : Ex (tabv l0 l1) s 0 tot) :
    Calls Try.prog 20 #[.slice A0 l0.length c0, .slice A1 l1.length c1, .string s, .bool false] w fun e w' => e = .returned (.string tot) ∧ Below w.heap.size w w' := by
  have H0 := Aside0.mk h0
  have H1 := Aside0.mk h1
  have HS0 := Aside0.mk hs0
  have HS1 := Aside0.mk hs1
  have HX := Aside0.mk hx
  clear h0 h1 hs0 hs1 hx
  go_enter Try.func20, Try.ntmps20
  go_wp2_with fail
  (with_reducible refine (table_is A0 A1 c0 c1 l0 l1 _ H0.out H1.out hl0 hl1 HS0.out HS1.out).mono ?_)
  rintro e w1 ⟨rfl, hm, hb⟩
  have HM := Aside0.mk hm
  have HB := Aside0.mk hb
  have hsz := hb.size
  clear hm hb
  go_wp2_with fail
  (with_reducible refine (door_is w.heap.size l0.length (tabv l0 l1) s tot _ HM.out hs ht HX.out).mono ?_)
  rintro e w2 ⟨rfl, b2⟩
  have HB2 := Aside0.mk (below_then HB.out hsz b2)
  clear b2
  go_wp2_with fail
  go_ret
  exact ⟨rfl, HB2.out⟩

end Go.Proofs.Ytopmkiadoacipaa.Xp

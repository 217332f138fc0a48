/- The walks of impl.table and of the look-up's closure. -/
import Derived.Test.YtopmkiadoacipaaTab
namespace Go.Proofs.Ytopmkiadoacipaa.Tab
open Go.RowKit Go.Proofs.YtopmkiadoacipaaW.PrintWords Go.Maps

abbrev Rd (w : World) (A : Option Addr) (n : Nat) (l : List ByteArray) : Prop := ReadsOf Value.string ByteArray.empty w A n l

/-- the table of names and values -/
def tabv (l0 l1 : List ByteArray) : ByteArray → ByteArray := tab l0 l1 (min l0.length l1.length)

theorem rd_at {w : World} {ad : Addr} {l : List ByteArray} (h : Rd w (some ad) l.length l) (k : Nat) (hk : k < l.length) : w.cell? (ad.add k) = some (.string (l.getD k ByteArray.empty)) := by
  obtain ⟨ad', e, hc⟩ := h.2.2 (by omega)
  injection e with e
  subst e
  exact hc k hk

theorem rd_some {w : World} {A : Option Addr} {l : List ByteArray} (h : Rd w A l.length l) (h0 : 0 < l.length) : ∃ ad, A = some ad := by
  obtain ⟨ad', e, _⟩ := h.2.2 h0
  exact ⟨ad', e⟩

theorem getD_size {l : List ByteArray} {m : Nat} (h : ∀ s ∈ l, s.size ≤ m) (k : Nat) : (l.getD k ByteArray.empty).size ≤ m := by
  rw [List.getD_eq_getElem?_getD]
  by_cases hk : k < l.length
  · rw [List.getElem?_eq_getElem hk]; exact h _ (List.getElem_mem hk)
  · rw [List.getElem?_eq_none (by omega)]; exact Nat.zero_le _

set_option maxHeartbeats 4000000 in
set_option maxRecDepth 100000 in
theorem table_is (A0 A1 : Option Addr) (c0 c1 : Nat) (l0 l1 : List ByteArray) (w : World) (h0 : Rd w A0 l0.length l0) (h1 : Rd w A1 l1.length l1) (hl0 : l0.length ≤ 281474976710656) (hl1 : l1.length ≤ 281474976710656)
    (hs0 : ∀ s ∈ l0, s.size ≤ 281474976710656) (hs1 : ∀ s ∈ l1, s.size ≤ 281474976710656) :
    Calls Try.prog 24 #[.slice A0 l0.length c0, .slice A1 l1.length c1] w fun e w' => e = .returned (.map (some w.heap.size)) ∧ MapIs w' w.heap.size l0.length (tabv l0 l1) ∧ Below w.heap.size w w' := by
  have H0 := Aside0.mk h0
  have H1 := Aside0.mk h1
  have HS0 := Aside0.mk hs0
  have HS1 := Aside0.mk hs1
  have hmm := @run_makeMap Try.prog
  clear h0 h1 hs0 hs1
  go_enter Try.func24, Try.ntmps24
  go_wp2_with fail
  go_loopw [11] (fun v11 wr => ∃ k : Nat, v11 = .int .i64 k ∧ k ≤ l0.length ∧ MapIs wr w.heap.size k (tab l0 l1 (min k l1.length)) ∧ Below w.heap.size w wr) (fun v11 _ => l0.length - (intOf v11).toNat)
  case atStart => exact ⟨0, rfl, by omega, by simpa [tab] using MapIs.made w, (Below.refl _ w).alloc (Nat.le_refl _) _⟩
  case round =>
    obtain ⟨k, rfl, hk, hM, hB⟩ := hrel
    have HM := Aside0.mk hM
    have HB := Aside0.mk hB
    have hsz := hB.size
    clear hM hB
    by_cases hk0 : k < l0.length
    · obtain ⟨ad0, rfl⟩ := rd_some H0.out (by omega)
      have e0 := rd_at (H0.out) k hk0
      have hz0 := getD_size HS0.out k
      obtain ⟨n, hn⟩ : ∃ n, n = l0.getD k ByteArray.empty := ⟨_, rfl⟩
      rw [← hn] at e0 hz0
      have e0' : wr.cell? (ad0.add k) = some (.string n) := (HB.out.cell (World.block_lt_of_cell? w _ e0)).trans e0
      have d0 : decide ((k : Int) < (l0.length : Int)) = true := decide_eq_true (by omega)
      by_cases hk1 : k < l1.length
      · obtain ⟨ad1, rfl⟩ := rd_some H1.out (by omega)
        have e1 := rd_at (H1.out) k hk1
        have hz1 := getD_size HS1.out k
        obtain ⟨v, hv⟩ : ∃ v, v = l1.getD k ByteArray.empty := ⟨_, rfl⟩
        rw [← hv] at e1 hz1
        have e1' : wr.cell? (ad1.add k) = some (.string v) := (HB.out.cell (World.block_lt_of_cell? w _ e1)).trans e1
        have d1 : decide ((k : Int) < (l1.length : Int)) = true := decide_eq_true (by omega)
        obtain ⟨w', hrun, hM', hg⟩ := HM.out.store (by omega) n v hz0 hz1
        have HM' := Aside0.mk hM'
        have HG := Aside0.mk hg
        have HN := Aside0.mk hn
        have HV := Aside0.mk hv
        clear hM' hg hn hv e0 e1 hz0 hz1
        go_wp2_with fail
        go_roundw
        case rel =>
          refine ⟨k + 1, by go_num, by omega, ?_, HB.out.grown HG.out hsz (fun j hj => by cases hj; exact Nat.le_refl _)⟩
          have e : tab l0 l1 (min (k + 1) l1.length) = fun x => if x = n then v else tab l0 l1 (min k l1.length) x := by
            rw [show min (k + 1) l1.length = k + 1 from by omega, show min k l1.length = k from by omega, HN.out, HV.out]
            rfl
          rw [e]; exact HM'.out
        case measure => simp [intOf]; omega
      · have d1 : decide ((k : Int) < (l1.length : Int)) = false := decide_eq_false (by omega)
        clear e0
        go_wp2_with fail
        go_roundw
        case rel =>
          refine ⟨k + 1, by go_num, by omega, ?_, HB.out⟩
          rw [show min (k + 1) l1.length = min k l1.length from by omega]
          obtain ⟨D, h, h2⟩ := HM.out
          exact ⟨D, h.mono (by omega), h2⟩
        case measure => simp [intOf]; omega
    · obtain rfl : k = l0.length := by omega
      have d0 : decide ((l0.length : Int) < (l0.length : Int)) = false := decide_eq_false (by omega)
      go_wp2_with fail
      go_ret
      exact ⟨rfl, HM.out, HB.out⟩

set_option maxHeartbeats 4000000 in
set_option maxRecDepth 100000 in
/-- the closure of Expand: what the table holds at a name -/
theorem closure_is (g b n : Nat) (f : ByteArray → ByteArray) (s : ByteArray) (w : World) (hg : w.cell? ⟨g, 0, none⟩ = some (.map (some b))) (hm : MapIs w b n f) (hs : s.size ≤ 281474976710656) :
    Calls Try.prog 26 #[.string s, .pointer (some ⟨g, 0, none⟩)] w fun e w' => e = .returned (.string (f s)) ∧ Below w.heap.size w w' := by
  have HL := hm.look s hs
  clear hm
  go_enter Try.func26, Try.ntmps26
  go_wp2_with fail
  go_ret
  exact ⟨rfl, Below.refl _ _⟩

end Go.Proofs.Ytopmkiadoacipaa.Tab

/- The walk of spec.ScWritten: the text of parts with variables. -/
import Derived.Test.YtopmkiadoacipaaStep
import Derived.Test.YtopmkiadoacipaaXpPlain
import Derived.Deep.CutRange
namespace Go.Proofs.Ytopmkiadoacipaa.Written
open Go.RowKit Go.Proofs.YtopmkiadoacipaaW.PrintWords Go.Proofs.Ytopmkiadoacipaa.PFnExpandMade Go.Proofs.Ytopmkiadoacipaa.Buf Go.Proofs.Ytopmkiadoacipaa.Xp

/-- a part as it is written -/
def part (p : S50) : ByteArray :=
  if p.f1 = true then (if p.f2 = true then ((⟨#[36, 123]⟩ : ByteArray) ++ p.f0) ++ (⟨#[125]⟩ : ByteArray) else (⟨#[36]⟩ : ByteArray) ++ p.f0) else p.f0

/-- parts one behind the other -/
def parts : List S50 → ByteArray
  | [] => ByteArray.empty
  | p :: l => part p ++ parts l

theorem parts_snoc (l : List S50) (p : S50) : parts (l ++ [p]) = parts l ++ part p := by
  induction l with
  | nil => simp [parts]
  | cons q l ih => simp only [List.cons_append, parts, ih, ByteArray.append_assoc]

theorem parts_take (l : List S50) (k : Nat) (h : k < l.length) : parts (l.take (k + 1)) = parts (l.take k) ++ part (rd_T50 l (k : Int)) := by
  rw [List.take_succ_eq_append_getElem h, parts_snoc]
  congr 2
  simp [rd_T50, List.getD_eq_getElem?_getD, h]

theorem parts_le (l : List S50) (k : Nat) : (parts (l.take k)).size ≤ (parts l).size := by
  induction l generalizing k with
  | nil => simp [parts]
  | cons q l ih =>
    cases k with
    | zero => simp [parts]
    | succ k => simp only [List.take_succ_cons, parts, ByteArray.size_append]; have := ih k; omega

set_option maxHeartbeats 8000000 in
set_option maxRecDepth 100000 in
theorem written_is (A0 : Option Addr) (c0 : Nat) (l0 : List S50) (w : World) (hr0 : Kd.C k50 w A0 l0.length l0) (hz : (parts l0).size ≤ 35184372088832) (hl : l0.length ≤ 281474976710656) :
    Calls Try.prog 18 #[.slice A0 l0.length c0] w fun e w' => e = .returned (.string (parts l0)) ∧ Below w.heap.size w w' := by
  have hu50 := Try.underlying50
  have HR0 := Aside0.mk hr0
  clear hr0
  go_enter Try.func18, Try.ntmps18
  go_wp2_with fail
  go_loopw [3, 8] (fun v3 v8 wr => ∃ k : Nat, v8 = .int .i64 k ∧ k ≤ l0.length ∧ OwnV wr w.heap.size v3 (parts (l0.take k)) ∧ Below w.heap.size w wr) (fun _ v8 _ => l0.length - (intOf v8).toNat)
  case atStart => exact ⟨0, rfl, by omega, World.ownsRow_nil w _ 5 1, Below.refl _ _⟩
  case round =>
    obtain ⟨k, rfl, hk, hO, hB⟩ := hrel
    have HO := Aside0.mk hO
    have HB := Aside0.mk hB
    have hsz := hB.size
    clear hO hB
    by_cases hk0 : k < l0.length
    · have d0 : decide ((k : Int) < (l0.length : Int)) = true := decide_eq_true (by omega)
      have hz1 := parts_le l0 (k + 1)
      rw [parts_take l0 k hk0] at hz1
      have HP := Aside0.mk (parts_take l0 k hk0)
      obtain ⟨ad, e0, hx0, hx1, hx2⟩ := at_T50 HR0.out (k : Int) (by omega) (by omega)
      obtain ⟨p, hp⟩ : ∃ p, p = rd_T50 l0 (k : Int) := ⟨_, rfl⟩
      rw [← hp] at hz1 HP hx0 hx1 hx2
      clear hp
      cases e0
      replace hx0 := (HB.out.cell (World.block_lt_of_cell? w _ hx0)).trans hx0
      replace hx1 := (HB.out.cell (World.block_lt_of_cell? w _ hx1)).trans hx1
      replace hx2 := (HB.out.cell (World.block_lt_of_cell? w _ hx2)).trans hx2
      obtain ⟨t, f1, f2⟩ := p
      simp only [Int.toNat_natCast] at hx0 hx1 hx2
      cases f1 with
      | false =>
        have HPS : part ⟨t, false, f2⟩ = t := rfl
        rw [HPS] at hz1 HP
        rw [ByteArray.size_append] at hz1
        go_wp2_with (at_builtin; refine append_strV w rfl (.tmp 12) (.tmp 14) rfl _ (parts (l0.take k)) t rfl rfl (HO.out.alloc _) (HB.out.alloc hsz _) (by omega) ?_; intro v1 w1 hO1 hB1)
        go_roundw
        case rel => exact ⟨k + 1, by go_num, by omega, by rw [HP.out]; exact hO1, hB1⟩
        case measure => simp [intOf]; omega
      | true =>
        cases f2 with
        | true =>
          have HPS : part ⟨t, true, true⟩ = ((⟨#[36, 123]⟩ : ByteArray) ++ t) ++ (⟨#[125]⟩ : ByteArray) := rfl
          have h2z : (⟨#[36, 123]⟩ : ByteArray).size = 2 := rfl
          have h1z : (⟨#[125]⟩ : ByteArray).size = 1 := rfl
          rw [HPS] at hz1 HP
          simp only [ByteArray.size_append] at hz1
          go_wp2_with fail
          go_region_law (first
            | (refine step_str w rfl (.tmp 23) (.const (.string ⟨#[36, 123]⟩)) rfl _ (parts (l0.take k)) ⟨#[36, 123]⟩ rfl rfl (by first | exact HO.out.alloc _ | exact (HO.out.alloc _).alloc _) (by repeat (first | exact HB.out | apply below_alloc | apply pw_below_drewN | apply below_drew1)) (by omega) ?_; intro v1 w1 hO1 hB1 hk1
               obtain ⟨c1, n1⟩ := hk1 wr.heap.size 0 (.string t) (by go_simp) (HO.out.fresh _ (Nat.le_refl _))
               have hl1 := World.block_lt_of_cell? _ _ c1)
            | (refine step_str w rfl (.tmp 24) (.tmp 26) rfl _ (parts (l0.take k) ++ ⟨#[36, 123]⟩) t rfl rfl (by first | exact hO1 | exact hO1.alloc _) (by repeat (first | exact hB1 | apply below_alloc | apply pw_below_drewN | apply below_drew1)) (by rw [ByteArray.size_append]; omega) ?_; intro v2 w2 hO2 hB2 hk2)
            | (refine step_byte w rfl (.tmp 27) (.tmp 28) rfl _ (parts (l0.take k) ++ ⟨#[36, 123]⟩ ++ t) 125 125 rfl rfl _ _ rfl (by first
                | exact (hk2 (wr.heap.size + 1) 0 (.int .u8 125) (hk1 (wr.heap.size + 1) 0 (.int .u8 125) (by go_simp) (HO.out.fresh _ (by omega))).1 (hk1 (wr.heap.size + 1) 0 (.int .u8 125) (by go_simp) (HO.out.fresh _ (by omega))).2).1
                | exact (hk2 w1.heap.size 0 (.int .u8 125) (by go_simp) (hO1.fresh _ (Nat.le_refl _))).1
                | (go_simp; done)) (by first | exact hO2 | exact hO2.alloc _) (by repeat (first | exact hB2 | apply below_alloc | apply pw_below_drewN | apply below_drew1)) (by rw [ByteArray.size_append, ByteArray.size_append]; omega) ?_; intro v3 w3 hO3 hB3 hk3))
          all_goals go_wp2_with fail
          all_goals go_roundw
          all_goals first
            | exact ⟨k + 1, by go_num, by omega, by rw [HP.out]; simp only [ByteArray.append_assoc] at hO3 ⊢; exact hO3, hB3⟩
            | (simp [intOf]; omega)
        | false =>
          have HPS : part ⟨t, true, false⟩ = (⟨#[36]⟩ : ByteArray) ++ t := rfl
          have h1z : (⟨#[36]⟩ : ByteArray).size = 1 := rfl
          rw [HPS] at hz1 HP
          simp only [ByteArray.size_append] at hz1
          go_wp2_with fail
          go_region_law (first
            | (refine step_byte w rfl (.tmp 33) (.tmp 34) rfl _ (parts (l0.take k)) 36 36 rfl rfl _ _ rfl (by go_simp; done) (by first | exact HO.out.alloc _ | exact (HO.out.alloc _).alloc _) (by repeat (first | exact HB.out | apply below_alloc | apply pw_below_drewN | apply below_drew1)) (by omega) ?_; intro v1 w1 hO1 hB1 hk1
               obtain ⟨c1, n1⟩ := hk1 wr.heap.size 0 (.string t) (by go_simp) (HO.out.fresh _ (Nat.le_refl _)))
            | (refine step_str w rfl (.tmp 35) (.tmp 37) rfl _ (parts (l0.take k) ++ ⟨#[36]⟩) t rfl rfl (by first | exact hO1 | exact hO1.alloc _) (by repeat (first | exact hB1 | apply below_alloc | apply pw_below_drewN | apply below_drew1)) (by rw [ByteArray.size_append]; omega) ?_; intro v3 w3 hO3 hB3 hk3))
          all_goals go_wp2_with fail
          all_goals go_roundw
          all_goals first
            | exact ⟨k + 1, by go_num, by omega, by rw [HP.out]; simp only [ByteArray.append_assoc] at hO3 ⊢; exact hO3, hB3⟩
            | (simp [intOf]; omega)
    · obtain rfl : k = l0.length := by omega
      have d0 : decide ((l0.length : Int) < (l0.length : Int)) = false := decide_eq_false (by omega)
      have hs := string_ofV HO.out
      rw [List.take_length] at hs
      go_wp2_with fail
      go_ret
      exact ⟨rfl, HB.out⟩

end Go.Proofs.Ytopmkiadoacipaa.Written

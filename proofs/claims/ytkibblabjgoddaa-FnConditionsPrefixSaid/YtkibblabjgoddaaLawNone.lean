/- The walk of the law FnConditionsNone. -/
import Derived.Test.YtkibblabjgoddaaCondNone
import Derived.WalkSpells
namespace Go.Proofs.Ytkibblabjgoddaa.Tab
open Go.RowKit Go.Proofs.YtkibblabjgoddaaW.PrintWords Go.Maps Go.WideMaps Go.Proofs.Ytkibblabjgoddaa.PFnConditions

theorem wrap_next {i : Int} {n : Nat} (h0 : 0 ≤ i) (h : i < (n : Int)) (hn : n ≤ 562949953421312) : wrap64 (i + 1) = i + 1 := by
  unfold wrap64
  omega

theorem rd_at27 (l : List S27) (i : Nat) (h : i < l.length) : rd_T27 l (i : Int) = l[i] := by
  simp [rd_T27, List.getD_eq_getElem?_getD, h]

theorem fits10_some (a : ByteArray) (b : Bool) : ∃ r, laws_zzFits10.f a b = some r ∧ (r = true → a.size ≤ 2147483647) := by
  unfold laws_zzFits10.f
  split
  · exact ⟨_, rfl, fun h => by cases h⟩
  · exact ⟨_, rfl, fun _ => by omega⟩

theorem fits9_from (l : List S27) (hl : l.length ≤ 281474976710656) (d : Nat) : ∀ (k i : Nat), i ≤ l.length → l.length - i = d → d < k →
    ∃ b, laws_zzFits9.l0 k l (l.length : Int) (i : Int) = some b ∧ (b = true → ∀ j, i ≤ j → ∀ h : j < l.length, l[j].f0.size ≤ 2147483647) := by
  induction d with
  | zero =>
    intro k i h1 hd hk
    obtain ⟨k, rfl⟩ : ∃ m, k = m + 1 := ⟨k - 1, by omega⟩
    exact ⟨true, by simp only [laws_zzFits9.l0]; rw [if_neg (by omega)], fun _ j _ _ => by omega⟩
  | succ d ih =>
    intro k i h1 hd hk
    obtain ⟨k, rfl⟩ : ∃ m, k = m + 1 := ⟨k - 1, by omega⟩
    obtain ⟨b, hb, ht⟩ := ih k (i + 1) (by omega) (by omega) (by omega)
    simp only [laws_zzFits9.l0]
    rw [if_pos (by omega), if_pos (by omega), if_pos (by omega)]
    obtain ⟨r, hr, hrs⟩ := fits10_some (rd_T27 l (i : Int)).f0 (rd_T27 l (i : Int)).f1
    rw [hr]
    simp only [Option.bind_some]
    cases r with
    | false => exact ⟨false, by rw [if_neg (by simp)], fun h => by cases h⟩
    | true =>
      refine ⟨b, ?_, fun hbt j h1 h2 => ?_⟩
      · rw [if_pos rfl, wrap_next (n := l.length) (by omega) (by omega) (by omega)]
        exact hb
      · by_cases ej : j = i
        · subst ej
          have := hrs rfl
          rwa [rd_at27 l j h2] at this
        · exact ht hbt j (by omega) h2

theorem fits9_some (l : List S27) : ∃ b, laws_zzFits9.f (l.length + 1) l = some b ∧ (b = true → l.length ≤ 2147483647 ∧ ∀ p ∈ l, p.f0.size ≤ 2147483647) := by
  unfold laws_zzFits9.f
  by_cases e : (l.length : Int) > 2147483647
  · exact ⟨false, by rw [if_pos e], fun h => by cases h⟩
  · obtain ⟨b, hb, ht⟩ := fits9_from l (by omega) l.length (l.length + 1) 0 (by omega) (by omega) (by omega)
    refine ⟨b, by rw [if_neg e]; exact hb, fun h => ⟨by omega, fun p hp => ?_⟩⟩
    obtain ⟨i, hi, rfl⟩ := List.getElem_of_mem hp
    exact ht h i (Nat.zero_le _) hi

set_option maxHeartbeats 8000000 in
set_option maxRecDepth 100000 in
theorem walk_none (A : Option Addr) (c0 : Nat) (l : List S27) (w : World) (hr : Kd.C k27 w A l.length l) (hc : l.length ≤ c0) : Calls Try.prog 4 #[.slice A l.length c0] w fun e w' => e = .returned (.bool true) ∧ Below w.heap.size w w' := by
  obtain ⟨b, hb, hbt⟩ := fits9_some l
  have hu27 := Try.underlying27
  have HR := Aside0.mk hr
  have HB9 := Aside0.mk hb
  have HT := Aside0.mk hbt
  clear hr hb hbt
  go_enter Try.func4, Try.ntmps4
  go_wp2_with fail
  (with_reducible refine (laws_zzFits9.calls _ A c0 l b _ HR.out hc HB9.out).mono ?_)
  rintro e wa ⟨rfl, ba⟩
  have HBa := Aside0.mk ba
  have HRa := Aside0.mk (Kd.C_below HR.out ba)
  clear ba HR
  cases b with
  | false =>
    go_wp2_with fail
    go_ret
    exact ⟨rfl, HBa.out⟩
  | true =>
    obtain ⟨hl, hs⟩ := HT.out rfl
    have HS := Aside0.mk (fun p (hp : p ∈ l) => Nat.le_trans (hs p hp) (show 2147483647 ≤ 281474976710656 by omega))
    clear hs HT
    go_wp2_with fail
    go_loopw [14] (fun v14 wr => ∃ k : Nat, v14 = .int .i64 k ∧ k ≤ l.length ∧ Below wa.heap.size wa wr) (fun v14 _ => l.length - (intOf v14).toNat)
    case atStart => exact ⟨0, rfl, by omega, Below.refl _ _⟩
    case round =>
      obtain ⟨wo, rfl⟩ : ∃ wo : World, wo = wr := ⟨_, rfl⟩
      obtain ⟨k, rfl, hk, hB⟩ := hrel
      have HB := Aside0.mk hB
      have HRo := Aside0.mk (Kd.C_below HRa.out hB)
      clear hB
      by_cases hk0 : k < l.length
      · have d0 : decide ((k : Int) < (l.length : Int)) = true := decide_eq_true (by omega)
        obtain ⟨ad, e0, hx0, hx1⟩ := at_T27 HRo.out (k : Int) (by omega) (by omega)
        obtain ⟨p, hp⟩ : ∃ p, p = rd_T27 l (k : Int) := ⟨_, rfl⟩
        rw [← hp] at hx0 hx1
        clear hp
        cases e0
        obtain ⟨t, m⟩ := p
        simp only [Int.toNat_natCast] at hx0 hx1
        have hcap : (k : Int) ≤ (c0 : Int) := by omega
        go_wp2_with fail
        have hcn : (wo.alloc (.cells #[.string t, .bool m] 27)).cell? ⟨wo.heap.size, 0, none⟩ = some (.string t) := by
          rw [World.cell?_alloc_at _ _ _ _ rfl]; rfl
        have hbn : Below wo.heap.size wo (wo.alloc (.cells #[.string t, .bool m] 27)) := (Below.refl _ wo).alloc (Nat.le_refl _) _
        have hzn : wo.heap.size < (wo.alloc (.cells #[.string t, .bool m] 27)).heap.size := by simp
        obtain ⟨wn, hwn⟩ : ∃ wn : World, wn = wo.alloc (.cells #[.string t, .bool m] 27) := ⟨_, rfl⟩
        rw [← hwn] at hcn hbn hzn ⊢
        have HCN := Aside0.mk hcn
        have HBN := Aside0.mk hbn
        clear hwn hcn hbn hx0 hx1
        go_loopw [23] (fun v23 wi => ∃ q : Nat, v23 = .int .i64 q ∧ q ≤ k ∧ Below wn.heap.size wn wi) (fun v23 _ => k - (intOf v23).toNat)
        case atStart => exact ⟨0, rfl, by omega, Below.refl _ _⟩
        case round =>
          obtain ⟨q, rfl, hq, hbi⟩ := hrel
          have HBI := Aside0.mk hbi
          have hcw : wr.cell? ⟨wo.heap.size, 0, none⟩ = some (.string t) := (hbi.cell (p := ⟨wo.heap.size, 0, none⟩) hzn).trans HCN.out
          have hlw : wo.heap.size < wr.heap.size := World.block_lt_of_cell? wr _ hcw
          have HRI := Aside0.mk (Kd.C_below HRo.out (below_then HBN.out HBN.out.size hbi))
          clear hbi
          by_cases hq0 : q < k
          · have dq : decide ((q : Int) < (k : Int)) = true := decide_eq_true (by omega)
            obtain ⟨ad2, e2, hy0, hy1⟩ := at_T27 HRI.out (q : Int) (by omega) (by omega)
            obtain ⟨p2, hp2⟩ : ∃ p, p = rd_T27 l (q : Int) := ⟨_, rfl⟩
            rw [← hp2] at hy0 hy1
            clear hp2
            cases e2
            obtain ⟨t2, m2⟩ := p2
            simp only [Int.toNat_natCast] at hy0 hy1
            have hbx := HBI.out.alloc HBI.out.size (.cells #[.string t2, .bool m2] 27)
            have HBX := Aside0.mk hbx
            clear hbx
            cases hbq : (t2.toList == t.toList) with
            | true =>
              go_wp2_with fail
              go_ret
              exact ⟨rfl, below_then HBa.out HBa.out.size (below_then HB.out HB.out.size (below_then HBN.out HBN.out.size HBX.out))⟩
            | false =>
              go_wp2_with fail
              go_roundw
              case rel => exact ⟨q + 1, by go_num, by omega, HBX.out⟩
              case measure => simp [intOf]; omega
          · obtain rfl : q = k := by omega
            have dq : decide ((q : Int) < (q : Int)) = false := decide_eq_false (by omega)
            go_wp2_with fail
            go_roundw
            case rel => exact ⟨q + 1, by go_num, by omega, below_then HB.out HB.out.size (below_then HBN.out HBN.out.size HBI.out)⟩
            case measure => simp [intOf]; omega
      · obtain rfl : k = l.length := by omega
        have d0 : decide ((l.length : Int) < (l.length : Int)) = false := decide_eq_false (by omega)
        go_wp2_with fail
        (with_reducible refine (impl_none A c0 l _ HRo.out (by omega) HS.out).mono ?_)
        rintro e wf ⟨rfl, bf⟩
        have HBf := Aside0.mk (below_then HBa.out HBa.out.size (below_then HB.out HB.out.size bf))
        clear bf
        go_wp2_with fail
        go_ret
        exact ⟨rfl, HBf.out⟩

end Go.Proofs.Ytkibblabjgoddaa.Tab

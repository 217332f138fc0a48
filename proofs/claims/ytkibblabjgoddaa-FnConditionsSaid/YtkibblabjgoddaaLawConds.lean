/- The walk of the law FnConditions. -/
import Derived.Test.YtkibblabjgoddaaCondAll
import Derived.WalkSpells
import Derived.Deep.QuietTactic
import Derived.BigQuiet
namespace Go.Proofs.Ytkibblabjgoddaa.Tab
open Go.RowKit Go.Proofs.YtkibblabjgoddaaW.PrintWords Go.Maps Go.WideMaps Go.Proofs.Ytkibblabjgoddaa.PFnConditions

theorem met_of (l : List S27) (h : ∀ i, (hi : i < l.length) → ∀ q, (hq : q < i) → l[q].f0 ≠ l[i].f0) : ∃ met : ByteArray → Bool, ∀ p ∈ l, met p.f0 = p.f1 := by
  classical
  refine ⟨fun t => if hx : ∃ p ∈ l, p.f0 = t then (Classical.choose hx).f1 else false, fun p hp => ?_⟩
  have hx : ∃ q ∈ l, q.f0 = p.f0 := ⟨p, hp, rfl⟩
  simp only [dif_pos hx]
  obtain ⟨h1, h2⟩ := Classical.choose_spec hx
  obtain ⟨i, hi, e1⟩ := List.getElem_of_mem h1
  obtain ⟨j, hj, e2⟩ := List.getElem_of_mem hp
  have : i = j := by
    rcases Nat.lt_trichotomy i j with c | c | c
    · exact absurd (by rw [e1, e2]; exact h2) (h j hj i c)
    · exact c
    · exact absurd (by rw [e1, e2]; exact h2.symm) (h i hi j c)
  subst this
  rw [← e1, ← e2]

/-- which condition a pick is -/
def at_ (l : List S27) (n : Int) : Int := (n.tmod l.length + l.length).tmod l.length
theorem at_bounds (l : List S27) (n : Int) (hl : 0 < l.length) (hm : l.length ≤ 2147483647) : ∃ j : Nat, j < l.length ∧ at_ l n = j ∧ (wrap64 (n.tmod l.length + l.length)).tmod l.length = j := by
  have h0 : (0 : Int) < (l.length : Int) := by omega
  have h1 := Int.tmod_lt_of_pos n h0
  have h2 := Int.lt_tmod_of_pos n h0
  have h3 : wrap64 (n.tmod l.length + l.length) = n.tmod l.length + l.length := by unfold wrap64; omega
  have h4 := Int.tmod_lt_of_pos (n.tmod l.length + l.length) h0
  have h5 := Int.tmod_nonneg (l.length : Int) (show 0 ≤ n.tmod l.length + l.length by omega)
  refine ⟨(at_ l n).toNat, ?_, ?_, ?_⟩
  · unfold at_; omega
  · unfold at_; omega
  · rw [h3]; unfold at_; omega

def tagOf (l : List S27) (n : Int) : ByteArray := (rd_T27 l (at_ l n)).f0
def tagsOf (l : List S27) (ps : List Int) : List ByteArray := ps.map (tagOf l)
def pairs (l : List S27) (ps : List Int) (ws : List Bool) : List (Bool × ByteArray) := ws.zip (tagsOf l ps)

theorem tags_length (l : List S27) (ps : List Int) (k : Nat) (h : k ≤ ps.length) : ((tagsOf l ps).take k).length = k := by
  simp [tagsOf]; omega
theorem tags_snoc (l : List S27) (ps : List Int) (k : Nat) (h : k < ps.length) : (tagsOf l ps).take (k + 1) = (tagsOf l ps).take k ++ [tagOf l (rd ps (k : Int))] := by
  rw [List.take_succ_eq_append_getElem (by simpa [tagsOf] using h)]
  simp [tagsOf, YtkibblabjgoddaaW.PrintWords.rd, List.getD_eq_getElem?_getD, h]
theorem pairs_snoc (l : List S27) (ps : List Int) (ws : List Bool) (k : Nat) (h : k < ps.length) (h2 : k < ws.length) : (pairs l ps ws).take (k + 1) = (pairs l ps ws).take k ++ [(rdOf false ws (k : Int), tagOf l (rd ps (k : Int)))] := by
  rw [List.take_succ_eq_append_getElem (by simp [pairs, tagsOf]; omega)]
  simp [pairs, tagsOf, YtkibblabjgoddaaW.PrintWords.rd, rdOf, List.getD_eq_getElem?_getD, h, h2]

theorem impl_all' (At Aw : Option Addr) (ct cw : Nat) (ts : List (Bool × ByteArray)) (r : Bool) (met : ByteArray → Bool) (A : Option Addr) (c0 : Nat) (l : List S27) (w : World) (m : Nat) (hm : ts.length = m) (hrr : (ts.all fun p => met p.2 == p.1) = r) (hr : Kd.C k27 w A l.length l) (hl : l.length ≤ 140737488355328) (hs : ∀ p ∈ l, p.f0.size ≤ 281474976710656)
    (ht : ReadsOf Value.string ByteArray.empty w At m (ts.map (·.2))) (hw : ReadsOf Value.bool false w Aw m (ts.map (·.1))) (hmet : ∀ p ∈ l, met p.f0 = p.f1) (hin : ∀ p ∈ ts, ∃ q ∈ l, q.f0 = p.2) (hlt : m ≤ 4294967296) (hno : ∀ p ∈ l, ∀ j : Nat, j < p.f0.size → bt p.f0 (j : Int) ≠ 58) :
    Calls Try.prog 9 #[.slice At m ct, .slice Aw m cw, .slice A l.length c0, .slice none 0 0] w fun e w' => e = .returned (.tuple #[.bool r, .bool true]) ∧ Below w.heap.size w w' := by
  subst hm hrr
  exact impl_all At Aw ct cw ts met A c0 l w hr hl hs ht hw hmet hin hlt hno

set_option maxHeartbeats 8000000 in
set_option maxRecDepth 100000 in
theorem walk_conds (A Ap Aw : Option Addr) (c0 cp cw : Nat) (l : List S27) (ps : List Int) (ws : List Bool) (w : World) (hr : Kd.C k27 w A l.length l) (hc : l.length ≤ c0) (hp : ReadsInt w .i64 Ap ps.length ps) (hw : ReadsOf Value.bool false w Aw ws.length ws) :
    Calls Try.prog 3 #[.slice A l.length c0, .slice Ap ps.length cp, .slice Aw ws.length cw] w fun e w' => e = .returned (.bool true) ∧ Below w.heap.size w w' := by
  obtain ⟨b, hb, hbt⟩ := fits9_some l
  have hu27 := Try.underlying27
  have HR := Aside0.mk hr
  have HP := Aside0.mk hp
  have HW := Aside0.mk hw
  have HB9 := Aside0.mk hb
  have HT := Aside0.mk hbt
  clear hr hb hbt hp hw
  go_enter Try.func3, Try.ntmps3
  go_wp2_with fail
  (with_reducible refine (laws_zzFits9.calls _ A c0 l b _ HR.out hc HB9.out).mono ?_)
  rintro e wa ⟨rfl, ba⟩
  have HBa := Aside0.mk ba
  have HRa := Aside0.mk (Kd.C_below HR.out ba)
  have HPa := Aside0.mk (HP.out.below ba)
  have HWa := Aside0.mk (HW.out.below ba)
  clear ba HR HP HW
  cases b with
  | false =>
    go_wp2_with fail
    go_ret
    exact ⟨rfl, HBa.out⟩
  | true =>
    obtain ⟨hl, hs⟩ := HT.out rfl
    have HS := Aside0.mk (fun p (hp : p ∈ l) => Nat.le_trans (hs p hp) (show 2147483647 ≤ 281474976710656 by omega))
    clear hs HT
    by_cases e1 : ps.length ≤ 2147483647
    case neg =>
      have d1 : decide ((ps.length : Int) > 2147483647) = true := decide_eq_true (by omega)
      go_wp2_with fail
      go_ret
      exact ⟨rfl, HBa.out⟩
    have d1 : decide ((ps.length : Int) > 2147483647) = false := decide_eq_false (by omega)
    by_cases e2 : ws.length ≤ 2147483647
    case neg =>
      have d2 : decide ((ws.length : Int) > 2147483647) = true := decide_eq_true (by omega)
      go_wp2_with fail
      go_ret
      exact ⟨rfl, HBa.out⟩
    have d2 : decide ((ws.length : Int) > 2147483647) = false := decide_eq_false (by omega)
    by_cases e3 : l.length = 0
    case pos =>
      have d3 : ((l.length : Int) == 0) = true := by simp [e3]
      have D3 := Aside0.mk e3
      clear e3
      go_wp2_with fail
      go_ret
      exact ⟨rfl, HBa.out⟩
    have d3 : ((l.length : Int) == 0) = false := by simp; exact fun h => e3 (by simp [h])
    by_cases e4 : ps.length = ws.length
    case neg =>
      have d4 : ((ps.length : Int) == (ws.length : Int)) = false := by simp; omega
      have d5 : ((ps.length : Int) != (ws.length : Int)) = true := by simp; omega
      go_wp2_with fail
      go_ret
      exact ⟨rfl, HBa.out⟩
    have d4 : ((ps.length : Int) == (ws.length : Int)) = true := by simp; omega
    have d5 : ((ps.length : Int) != (ws.length : Int)) = false := by simp; omega
    go_wp2_with fail
    have E4 := Aside0.mk e4
    clear d3 d4 d5 e4 d1 d2
    go_loopw [43] (fun v43 wr => ∃ k : Nat, v43 = .int .i64 k ∧ k ≤ l.length ∧ (∀ i, (h : i < l.length) → i < k → ∀ j : Nat, j < l[i].f0.size → bt l[i].f0 (j : Int) ≠ 58) ∧ (∀ i, (h : i < l.length) → i < k → ∀ q, (hq : q < i) → l[q].f0 ≠ l[i].f0) ∧ Below wa.heap.size wa wr) (fun v43 _ => l.length - (intOf v43).toNat)
    case atStart => exact ⟨0, rfl, by omega, fun i _ h => by omega, fun i _ h => by omega, Below.refl _ _⟩
    case round =>
      obtain ⟨wo, rfl⟩ : ∃ wo : World, wo = wr := ⟨_, rfl⟩
      obtain ⟨k, rfl, hk, hno, huq, hB⟩ := hrel
      have HNO := Aside0.mk hno
      have HUQ := Aside0.mk huq
      have HB := Aside0.mk hB
      have HRo := Aside0.mk (Kd.C_below HRa.out hB)
      clear hB hno huq
      by_cases hk0 : k < l.length
      · have d0 : decide ((k : Int) < (l.length : Int)) = true := decide_eq_true (by omega)
        obtain ⟨ad, e0, hx0, hx1⟩ := at_T27 HRo.out (k : Int) (by omega) (by omega)
        have hps : (rd_T27 l (k : Int)).f0.size ≤ 281474976710656 := by
          rw [rd_at27 l k hk0]; exact HS.out _ (List.getElem_mem hk0)
        obtain ⟨p, hp⟩ : ∃ p, p = rd_T27 l (k : Int) := ⟨_, rfl⟩
        have hpe : p = l[k] := by rw [hp, rd_at27 l k hk0]
        rw [← hp] at hx0 hx1 hps
        have HPE := Aside0.mk hpe
        clear hp hpe
        cases e0
        obtain ⟨t, m⟩ := p
        simp only [Int.toNat_natCast] at hx0 hx1
        obtain ⟨v2, hv2, hvn⟩ := cond_some t hps
        have HV2 := Aside0.mk hv2
        have HVN := Aside0.mk hvn
        have hbx := HB.out.alloc HB.out.size (.cells #[.string t, .bool m] 27)
        have HBX := Aside0.mk hbx
        clear hbx hv2 hvn
        have hcap : (k : Int) ≤ (c0 : Int) := by omega
        cases v2 with
        | false =>
          go_wp2_with (go_at_call 8; (with_reducible refine (spec_ScCond.calls _ t false _ HV2.out).mono ?_); rintro e w1 ⟨rfl, n1, rfl⟩)
          go_ret
          exact ⟨rfl, pw_below_drewN (below_then HBa.out HBa.out.size HBX.out) n1⟩
        | true =>
          go_wp2_with (go_at_call 8; (with_reducible refine (spec_ScCond.calls _ t true _ HV2.out).mono ?_); rintro e w1 ⟨rfl, n1, rfl⟩)
          have hcn : ((wo.alloc (.cells #[.string t, .bool m] 27)).drewN n1).cell? ⟨wo.heap.size, 0, none⟩ = some (.string t) := by
            show (wo.alloc (.cells #[.string t, .bool m] 27)).cell? _ = _
            rw [World.cell?_alloc_at _ _ _ _ rfl]; rfl
          have hbn : Below wo.heap.size wo ((wo.alloc (.cells #[.string t, .bool m] 27)).drewN n1) := pw_below_drewN ((Below.refl _ wo).alloc (Nat.le_refl _) _) n1
          have hzn : wo.heap.size < ((wo.alloc (.cells #[.string t, .bool m] 27)).drewN n1).heap.size := by
            show wo.heap.size < (wo.alloc (.cells #[.string t, .bool m] 27)).heap.size
            simp
          obtain ⟨wn, hwn⟩ : ∃ wn : World, wn = (wo.alloc (.cells #[.string t, .bool m] 27)).drewN n1 := ⟨_, rfl⟩
          rw [← hwn] at hcn hbn hzn ⊢
          have HCN := Aside0.mk hcn
          have HBN := Aside0.mk hbn
          clear hwn hcn hbn hx0 hx1
          go_loopw [56] (fun v56 wi => ∃ q : Nat, v56 = .int .i64 q ∧ q ≤ k ∧ (∀ j, (h : j < l.length) → j < q → l[j].f0 ≠ t) ∧ Below wn.heap.size wn wi) (fun v56 _ => k - (intOf v56).toNat)
          case atStart => exact ⟨0, rfl, by omega, fun j _ h => by omega, Below.refl _ _⟩
          case round =>
            obtain ⟨q, rfl, hq, hnq, hbi⟩ := hrel
            have HNQ := Aside0.mk hnq
            have HBI := Aside0.mk hbi
            have hcw : wr.cell? ⟨wo.heap.size, 0, none⟩ = some (.string t) := (hbi.cell (p := ⟨wo.heap.size, 0, none⟩) hzn).trans HCN.out
            have hlw : wo.heap.size < wr.heap.size := World.block_lt_of_cell? wr _ hcw
            have HRI := Aside0.mk (Kd.C_below HRo.out (below_then HBN.out HBN.out.size hbi))
            clear hbi hnq
            by_cases hq0 : q < k
            · have dq : decide ((q : Int) < (k : Int)) = true := decide_eq_true (by omega)
              obtain ⟨ad2, e2, hy0, hy1⟩ := at_T27 HRI.out (q : Int) (by omega) (by omega)
              obtain ⟨p2, hp2⟩ : ∃ p, p = rd_T27 l (q : Int) := ⟨_, rfl⟩
              have HPE2 := Aside0.mk (show p2 = l[q]'(by omega) by rw [hp2, rd_at27 l q (by omega)])
              rw [← hp2] at hy0 hy1
              clear hp2
              cases e2
              obtain ⟨t2, m2⟩ := p2
              simp only [Int.toNat_natCast] at hy0 hy1
              have hbx := HBI.out.alloc HBI.out.size (.cells #[.string t2, .bool m2] 27)
              have HBX2 := Aside0.mk hbx
              clear hbx
              cases hbq : (t2.toList == t.toList) with
              | true =>
                go_wp2_with fail
                go_ret
                exact ⟨rfl, below_then HBa.out HBa.out.size (below_then HB.out HB.out.size (below_then HBN.out HBN.out.size HBX2.out))⟩
              | false =>
                have HNE := Aside0.mk (show t2 ≠ t from fun e => by rw [e, beq_self_eq_true] at hbq; cases hbq)
                go_wp2_with fail
                go_roundw
                case rel =>
                  refine ⟨q + 1, by go_num, by omega, fun j h hj => ?_, HBX2.out⟩
                  by_cases ej : j = q
                  · subst ej
                    rw [← HPE2.out]; exact HNE.out
                  · exact HNQ.out j h (by omega)
                case measure => simp [intOf]; omega
            · obtain rfl : q = k := by omega
              have dq : decide ((q : Int) < (q : Int)) = false := decide_eq_false (by omega)
              go_wp2_with fail
              go_roundw
              case rel =>
                refine ⟨q + 1, by go_num, by omega, fun i h hi => ?_, fun i h hi j hj => ?_, below_then HB.out HB.out.size (below_then HBN.out HBN.out.size HBI.out)⟩
                · by_cases ei : i = q
                  · subst ei
                    rw [← HPE.out]; exact HVN.out trivial
                  · exact HNO.out i h (by omega)
                · by_cases ei : i = q
                  · subst ei
                    rw [← HPE.out]; exact HNQ.out j (by omega) hj
                  · exact HUQ.out i h (by omega) j hj
              case measure => simp [intOf]; omega
      · obtain rfl : k = l.length := by omega
        have d0 : decide ((l.length : Int) < (l.length : Int)) = false := decide_eq_false (by omega)
        go_wp2_with fail
        have HNA : Aside0 (∀ p ∈ l, ∀ j : Nat, j < p.f0.size → bt p.f0 (j : Int) ≠ 58) := Aside0.mk (fun p hp => by
          obtain ⟨i, hi, rfl⟩ := List.getElem_of_mem hp
          exact HNO.out i hi hi)
        obtain ⟨met, hmet⟩ := met_of l (fun i h q hq => HUQ.out i h h q hq)
        have HMET := Aside0.mk hmet
        clear hmet
        have HPo := Aside0.mk (HPa.out.below HB.out)
        have HWo := Aside0.mk (HWa.out.below HB.out)
        go_loopw [11, 12, 69] (fun v11 v12 v69 wr => ∃ k : Nat, v69 = .int .i64 k ∧ k ≤ ws.length ∧ wr.ownsRow wo.heap.size 9 1 v11 k (encs Value.string ((tagsOf l ps).take k)) ∧ v12 = .bool ((pairs l ps ws).take k |>.all fun p => met p.2 == p.1) ∧ Below wo.heap.size wo wr) (fun _ _ v69 _ => ws.length - (intOf v69).toNat)
        case atStart => exact ⟨0, rfl, by omega, World.ownsRow_nil _ _ _ _, rfl, Below.refl _ _⟩
        case round =>
          obtain ⟨k, rfl, hk, hO, rfl, hBr⟩ := hrel
          have HO := Aside0.mk hO
          have HBr := Aside0.mk hBr
          have HRr := Aside0.mk (Kd.C_below HRo.out hBr)
          have HPr := Aside0.mk (HPo.out.below hBr)
          have HWr := Aside0.mk (HWo.out.below hBr)
          clear hO hBr
          obtain ⟨mm, hmm⟩ : ∃ b, b = ((pairs l ps ws).take k |>.all fun p => met p.2 == p.1) := ⟨_, rfl⟩
          rw [← hmm]
          have HMM := Aside0.mk hmm
          clear hmm
          by_cases hk0 : k < ws.length
          · have d0 : decide ((k : Int) < (ws.length : Int)) = true := decide_eq_true (by omega)
            obtain ⟨adp, ep, hxp⟩ := HPr.out.at_ (k : Int) (by omega) (by rw [E4.out]; omega)
            cases ep
            obtain ⟨nn, hnn⟩ : ∃ n, n = rd ps (k : Int) := ⟨_, rfl⟩
            rw [← hnn] at hxp
            have HNN := Aside0.mk hnn
            clear hnn
            simp only [Int.toNat_natCast] at hxp
            have hl0 : (0 : Int) < (l.length : Int) := by omega
            obtain ⟨j, hj, hja, hjw⟩ := at_bounds l nn (by omega) hl
            have HJA := Aside0.mk hja
            clear hja
            obtain ⟨ad, e0, hx0, hx1⟩ := at_T27 HRr.out (j : Int) (by omega) (by omega)
            obtain ⟨p, hp⟩ : ∃ p, p = rd_T27 l (j : Int) := ⟨_, rfl⟩
            rw [← hp] at hx0 hx1
            have HPE := Aside0.mk hp
            clear hp
            cases e0
            obtain ⟨t, m⟩ := p
            simp only [Int.toNat_natCast] at hx0 hx1
            have d7 : decide ((j : Int) < (l.length : Int)) = true := decide_eq_true (by omega)
            have hkp : k < ps.length := by rw [E4.out]; exact hk0
            have hlen := tags_length l ps k (by omega)
            have hO2 : wr.ownsRow wo.heap.size 9 1 u11 ((tagsOf l ps).take k).length (encs Value.string ((tagsOf l ps).take k)) := by rw [hlen]; exact HO.out
            have HO2 := Aside0.mk hO2
            have HLEN := Aside0.mk hlen
            have HTS := Aside0.mk (tags_snoc l ps k hkp)
            have HPS := Aside0.mk (pairs_snoc l ps ws k hkp hk0)
            have HTT : Aside0 (tagOf l (rd ps (k : Int)) = t) := Aside0.mk (by unfold tagOf; rw [← HNN.out, HJA.out, ← HPE.out])
            have HMT : Aside0 (met t = m) := Aside0.mk (by
              have := HMET.out (rd_T27 l (j : Int)) (by rw [rd_at27 l j hj]; exact List.getElem_mem hj)
              rw [← HPE.out] at this
              exact this)
            obtain ⟨adw, ew, hxw⟩ := HWo.out.at_ (k : Int) (by omega) (by omega)
            cases ew
            obtain ⟨wv, hwv⟩ : ∃ b, b = rdOf false ws (k : Int) := ⟨_, rfl⟩
            rw [← hwv] at hxw
            have HWV := Aside0.mk hwv
            simp only [Int.toNat_natCast] at hxw
            have HXW := Aside0.mk hxw
            clear hlen hO2 hkp hwv hxw
            have HZ : Aside0 ((wr.alloc (.cells #[.string t, .bool m] 27)).heap.size = wr.heap.size + 1) := Aside0.mk (by simp)
            go_wp2_with (at_builtin; refine print_append_of (w0 := wo) Value.string wo.heap.size rfl (.tmp 87) (.tmp 90) 29 9 (.string ⟨#[]⟩) 16 rfl Try.underlying29 info9' rfl (by decide) u11 ((tagsOf l ps).take k) t rfl (by rw [HZ.out]; rfl) rfl (HO2.out.alloc _) (HBr.out.alloc HBr.out.size _) (HBr.out.alloc HBr.out.size _).size (by rw [HLEN.out]; omega) ?_; intro v1 w1 hO1 hB1 hg1 _)
            have hcm : w1.cell? ⟨wr.heap.size, 1, none⟩ = some (.bool m) := by
              have hne := own_lt HO2.out
              refine (hg1.cell_far ⟨wr.heap.size, 1, none⟩ (by simp) (fun e => ?_)).trans ?_
              · have := hne _ e.symm; simp at this
              · rw [World.cell?_alloc_at _ _ _ _ rfl]; rfl
            have hcw := pw_cell_below hB1 HXW.out
            have HO1 := Aside0.mk (show w1.ownsRow wo.heap.size 9 1 v1 (k + 1) (encs Value.string ((tagsOf l ps).take (k + 1))) by
              rw [HTS.out, HTT.out]
              have := hO1
              rwa [List.length_append, HLEN.out] at this)
            have HB1 := Aside0.mk hB1
            have HAL : Aside0 (((pairs l ps ws).take (k + 1)).all (fun p => met p.2 == p.1) = (mm && (m == wv))) := Aside0.mk (by
              rw [HPS.out, List.all_append, ← HMM.out, HTT.out, ← HWV.out]
              simp [HMT.out])
            clear hO1 hB1 hg1
            cases mm with
            | false =>
              go_quiet (fail)
              go_wp2_with fail
              go_roundw
              case rel => exact ⟨k + 1, by go_num, by omega, pw_own_drewN HO1.out _, by rw [HAL.out]; rfl, pw_below_drewN HB1.out _⟩
              case measure => simp [intOf]; omega
            | true =>
              go_quiet (fail)
              go_wp2_with fail
              go_roundw
              case rel => exact ⟨k + 1, by go_num, by omega, pw_own_drewN HO1.out _, by rw [HAL.out]; rfl, pw_below_drewN HB1.out _⟩
              case measure => simp [intOf]; omega
          · obtain rfl : k = ws.length := by omega
            have d0 : decide ((ws.length : Int) < (ws.length : Int)) = false := decide_eq_false (by omega)
            go_wp2_with fail
            have hlen := tags_length l ps ws.length (by rw [E4.out]; exact Nat.le_refl _)
            have hO2 := HO.out
            obtain ⟨At, ct, rfl⟩ := own_slice hO2
            have hrd := own_reads_of' (d := ByteArray.empty) hO2
            have hpl : (pairs l ps ws).length = ws.length := by simp [pairs, tagsOf, E4.out]
            have hp1 : (pairs l ps ws).map (·.1) = ws := by
              simp only [pairs]
              rw [List.map_fst_zip]
              simp [tagsOf, E4.out]
            have hp2 : (pairs l ps ws).map (·.2) = (tagsOf l ps).take ws.length := by
              simp only [pairs]
              rw [List.map_snd_zip (by simp [tagsOf, E4.out])]
              rw [List.take_of_length_le (by simp [tagsOf, E4.out])]
            have hin : ∀ p ∈ pairs l ps ws, ∃ q ∈ l, q.f0 = p.2 := fun p hp => by
              have h2 := (List.of_mem_zip hp).2
              obtain ⟨n, _, en⟩ := List.mem_map.1 h2
              obtain ⟨j, hj, hja, _⟩ := at_bounds l n (by omega) hl
              exact ⟨l[j], List.getElem_mem hj, by rw [← rd_at27 l j hj, ← hja, ← en]; rfl⟩
            have hrr : ((pairs l ps ws).all fun p => met p.2 == p.1) = mm := by
              rw [HMM.out, List.take_of_length_le (by rw [hpl]; exact Nat.le_refl _)]
            rw [← hp2] at hrd
            have hwd : ReadsOf Value.bool false wr Aw ws.length ((pairs l ps ws).map (·.1)) := by rw [hp1]; exact HWr.out
            have H1 := Aside0.mk hpl
            have H2 := Aside0.mk hrr
            have H3 := Aside0.mk hrd
            have H4 := Aside0.mk hwd
            have H5 := Aside0.mk hin
            clear hpl hrr hrd hwd hin hp1 hp2 hlen hO2
            (with_reducible refine (impl_all' At Aw ct cw (pairs l ps ws) mm met A c0 l wr ws.length H1.out H2.out HRr.out (by omega) HS.out H3.out H4.out HMET.out H5.out (by omega) HNA.out).mono ?_)
            rintro e wf ⟨rfl, bf⟩
            have HBf := Aside0.mk (below_then HBa.out HBa.out.size (below_then HB.out HB.out.size (below_then HBr.out HBr.out.size bf)))
            clear bf
            cases mm with
            | false =>
              go_wp2_with fail
              go_ret
              exact ⟨rfl, HBf.out⟩
            | true =>
              go_wp2_with fail
              go_ret
              exact ⟨rfl, HBf.out⟩

end Go.Proofs.Ytkibblabjgoddaa.Tab

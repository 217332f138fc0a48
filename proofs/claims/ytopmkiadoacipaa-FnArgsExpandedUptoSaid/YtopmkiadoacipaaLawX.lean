/- The law FnArgsExpanded: what zzFits6 says; the pieces' values; the walk. -/
import Derived.Test.YtopmkiadoacipaaLawQ
import Derived.Test.YtopmkiadoacipaaExTotal
import Derived.Test.YtopmkiadoacipaaRowsIn
namespace Go.Proofs.Ytopmkiadoacipaa.Args
open Go.RowKit Go.Proofs.YtopmkiadoacipaaW.PrintWords Go.Proofs.Ytopmkiadoacipaa.Tab Go.Proofs.Ytopmkiadoacipaa.Xp Go.Proofs.Ytopmkiadoacipaa.PFnExpandMade Go.Proofs.Ytopmkiadoacipaa.FixEnv
open Go.Proofs.Ytopmkiadoacipaa.PFnArgsExpanded (S40 k40 k40_mkM spec_ScSame.l0 spec_ScSame.f spec_ScSame.calls laws_zzFits6.l0 laws_zzFits6.f laws_zzFits6.calls laws_zzFits7.l0 laws_zzFits7.f laws_zzFits8.f rd_T40 rd_L3 at_T40)

theorem fits8_total (a : ByteArray) (b : Bool) : ∃ r, laws_zzFits8.f a b = some r := by
  unfold laws_zzFits8.f
  split
  · exact ⟨_, rfl⟩
  · exact ⟨_, rfl⟩

theorem fits7_from (l : List S40) (hl : l.length ≤ 281474976710656) (d : Nat) : ∀ (k i : Nat), i ≤ l.length → l.length - i = d → d < k → ∃ b, laws_zzFits7.l0 k l (l.length : Int) (i : Int) = some b := by
  induction d with
  | zero =>
    intro k i h1 hd hk
    obtain ⟨k, rfl⟩ : ∃ m, k = m + 1 := ⟨k - 1, by omega⟩
    exact ⟨true, by simp only [laws_zzFits7.l0]; rw [if_neg (by omega)]⟩
  | succ d ih =>
    intro k i h1 hd hk
    obtain ⟨k, rfl⟩ : ∃ m, k = m + 1 := ⟨k - 1, by omega⟩
    obtain ⟨b, hb⟩ := ih k (i + 1) (by omega) (by omega) (by omega)
    obtain ⟨r, hr⟩ := fits8_total (rd_T40 l (i : Int)).f0 (rd_T40 l (i : Int)).f1
    simp only [laws_zzFits7.l0]
    rw [if_pos (by omega), if_pos (by omega), if_pos (by omega), hr]
    simp only [Option.bind_some]
    rw [wrap_next (n := l.length) (by omega) (by omega) (by omega)]
    cases r with
    | true => exact ⟨b, by rw [if_pos rfl]; exact hb⟩
    | false => exact ⟨false, by rw [if_neg (by simp)]⟩

theorem fits7_total (l : List S40) (k : Nat) (hk : l.length < k) : ∃ b, laws_zzFits7.f k l = some b := by
  unfold laws_zzFits7.f
  by_cases e : (l.length : Int) > 2147483647
  · exact ⟨false, by rw [if_pos e]⟩
  · obtain ⟨b, hb⟩ := fits7_from l (by omega) l.length k 0 (by omega) (by omega) hk
    exact ⟨b, by rw [if_neg e]; exact hb⟩

theorem fits6_from (ls : List (List S40)) (N : Nat) (hN : ∀ l ∈ ls, l.length ≤ N) (hl : ls.length ≤ 281474976710656) (d : Nat) : ∀ (k i : Nat), i ≤ ls.length → ls.length - i = d → d + N < k → ∃ b, laws_zzFits6.l0 k ls (ls.length : Int) (i : Int) = some b := by
  induction d with
  | zero =>
    intro k i h1 hd hk
    obtain ⟨k, rfl⟩ : ∃ m, k = m + 1 := ⟨k - 1, by omega⟩
    exact ⟨true, by simp only [laws_zzFits6.l0]; rw [if_neg (by omega)]⟩
  | succ d ih =>
    intro k i h1 hd hk
    obtain ⟨k, rfl⟩ : ∃ m, k = m + 1 := ⟨k - 1, by omega⟩
    obtain ⟨b, hb⟩ := ih k (i + 1) (by omega) (by omega) (by omega)
    have hi : i < ls.length := by omega
    have hr : rd_L3 ls (i : Int) = ls[i] := by simp [rd_L3, List.getD_eq_getElem?_getD, hi]
    obtain ⟨r, hrr⟩ := fits7_total (rd_L3 ls (i : Int)) k (by rw [hr]; have := hN _ (List.getElem_mem hi); omega)
    simp only [laws_zzFits6.l0]
    rw [if_pos (by omega), if_pos (by omega), if_pos (by omega), hrr]
    simp only [Option.bind_some]
    rw [wrap_next (n := ls.length) (by omega) (by omega) (by omega)]
    cases r with
    | true => exact ⟨b, by rw [if_pos rfl]; exact hb⟩
    | false => exact ⟨false, by rw [if_neg (by simp)]⟩

theorem fits6_total (ls : List (List S40)) (N : Nat) (hN : ∀ l ∈ ls, l.length ≤ N) (hl : ls.length ≤ 281474976710656) : ∃ b, laws_zzFits6.f (ls.length + N + 1) ls = some b := by
  unfold laws_zzFits6.f
  by_cases e : (ls.length : Int) > 2147483647
  · exact ⟨false, by rw [if_pos e]⟩
  · obtain ⟨b, hb⟩ := fits6_from ls N hN hl ls.length (ls.length + N + 1) 0 (by omega) (by omega) (by omega)
    exact ⟨b, by rw [if_neg e]; exact hb⟩

theorem tab_size' (l0 l1 : List ByteArray) (N : Nat) (h : ∀ s ∈ l1, s.size ≤ N) (x : ByteArray) (k : Nat) : (tab l0 l1 k x).size ≤ N := by
  induction k with
  | zero => exact Nat.zero_le _
  | succ k ih =>
    show (if x = l0.getD k ByteArray.empty then l1.getD k ByteArray.empty else tab l0 l1 k x).size ≤ N
    split
    · exact getD_size h k
    · exact ih

/-- what a piece becomes -/
theorem val_of (l0 l1 : List ByteArray) (h1 : ∀ s ∈ l1, s.size ≤ 1048576) : ∃ val : S40 → ByteArray, (∀ p : S40, p.f0.size ≤ 1048576 → Val (tabv l0 l1) p (val p)) ∧ ∀ p : S40, p.f0.size ≤ 1048576 → (val p).size ≤ p.f0.size * 1048577 := by
  classical
  have key : ∀ p : S40, ∃ o : ByteArray, p.f0.size ≤ 1048576 → (Val (tabv l0 l1) p o ∧ o.size ≤ p.f0.size * 1048577) := fun p => by
    by_cases hz : p.f0.size ≤ 1048576
    · by_cases hq : p.f1 = true
      · exact ⟨p.f0, fun _ => ⟨Or.inl ⟨hq, rfl⟩, by omega⟩⟩
      · obtain ⟨r, hr, hrs⟩ := ex_total (tabv l0 l1) 1048576 (fun x => tab_size' l0 l1 1048576 h1 x _) p.f0 (by omega) p.f0.size 0 (Nat.zero_le _) (by omega)
        rw [Nat.sub_zero] at hrs
        refine ⟨r, fun _ => ⟨Or.inr ⟨by simpa using hq, hr, by omega, ?_⟩, hrs⟩⟩
        have : p.f0.size * 1048577 ≤ 1048576 * 1048577 := Nat.mul_le_mul_right _ hz
        omega
    · exact ⟨ByteArray.empty, fun h => absurd h hz⟩
  exact ⟨fun p => Classical.choose (key p), fun p h => (Classical.choose_spec (key p) h).1, fun p h => (Classical.choose_spec (key p) h).2⟩

/-- letters of a row of pieces -/
def wrow : List S40 → Nat
  | [] => 0
  | p :: l => p.f0.size + wrow l
theorem cat_size (val : S40 → ByteArray) (l : List S40) (h : ∀ p ∈ l, (val p).size ≤ p.f0.size * 1048577) : (cat val l).size ≤ wrow l * 1048577 := by
  induction l with
  | nil => exact Nat.zero_le _
  | cons p l ih =>
    simp only [cat, wrow, ByteArray.size_append]
    have h1 := h p List.mem_cons_self
    have h2 := ih (fun q hq => h q (List.mem_cons_of_mem _ hq))
    have h3 : (p.f0.size + wrow l) * 1048577 = p.f0.size * 1048577 + wrow l * 1048577 := Nat.add_mul _ _ _
    omega

theorem impl_args2 (A0 A1 A2 : Option Addr) (c0 c1 c2 : Nat) (l0 l1 : List ByteArray) (ls : List (List S40)) (w : World) (h0 : Rd w A0 l0.length l0) (h1 : Rd w A1 l1.length l1) (h2 : Kd.C (Kd.slice 40 k40) w A2 ls.length ls)
    (hl0 : l0.length ≤ 281474976710656) (hl1 : l1.length ≤ 281474976710656) (hs0 : ∀ s ∈ l0, s.size ≤ 281474976710656) (hs1 : ∀ s ∈ l1, s.size ≤ 281474976710656) (val : S40 → ByteArray)
    (hl : ls.length ≤ 2147483647) (hll : ∀ l ∈ ls, l.length ≤ 2147483647) (hval : ∀ l ∈ ls, ∀ p ∈ l, Val (tabv l0 l1) p (val p)) (hsz : ∀ l ∈ ls, (cat val l).size ≤ 140737488355328) :
    Calls Try.prog 23 #[.slice A0 l0.length c0, .slice A1 l1.length c1, .slice A2 ls.length c2, .slice none 0 0] w fun e w' => (∃ A c, e = .returned (.slice A ls.length c) ∧ ls.length ≤ c ∧ Kd.C Kd.string w' A ls.length (outs val ls)) ∧ Below w.heap.size w w' := by
  refine (impl_args' A0 A1 A2 c0 c1 c2 l0 l1 ls ls.length (outs val ls) w rfl h0 h1 h2 hl0 hl1 hs0 hs1 val rfl hl hll hval hsz).mono ?_
  rintro e w' ⟨⟨A, c, rfl, hc, hC⟩, hB⟩
  have hn : (outs val ls).length = ls.length := by simp [outs]
  rw [hn] at hc hC
  exact ⟨⟨A, c, by rw [hn], hc, hC⟩, hB⟩

theorem same2 (A0 A1 : Option Addr) (c0 c1 m : Nat) (L : List ByteArray) (w : World) (hm : L.length = m) (hl : m ≤ 281474976710656) (h0 : Kd.C Kd.string w A0 m L) (hc0 : m ≤ c0) (h1 : Kd.C Kd.string w A1 m L) (hc1 : m ≤ c1) :
    Calls Try.prog 22 #[.slice A0 m c0, .slice A1 m c1] w fun e w' => e = .returned (.bool true) ∧ Drawn0 w w' := by
  subst hm
  exact spec_ScSame.calls _ A0 c0 L A1 c1 L true w h0 hc0 h1 hc1 (same_true L hl)

theorem wrow_le (l : List S40) : wrow l ≤ RowsIn.wp l := by
  induction l with
  | nil => exact Nat.le_refl _
  | cons p l ih => simp only [wrow, RowsIn.wp]; omega

set_option maxHeartbeats 8000000 in
set_option maxRecDepth 100000 in
theorem walk_expanded (A0 A1 A2 : Option Addr) (c0 c1 c2 : Nat) (ls : List (List S40)) (l0 l1 : List ByteArray) (w : World) (ht : Kd.C (Kd.slice 40 k40) w A0 ls.length ls) (hct : ls.length ≤ c0) (h0 : Kd.C Kd.string w A1 l0.length l0) (hc0 : l0.length ≤ c1)
    (h1 : Kd.C Kd.string w A2 l1.length l1) (hc1 : l1.length ≤ c2) (hb : RowsIn.wr ls + StrsIn.wt l0 + StrsIn.wt l1 ≤ 1048576) :
    Calls Try.prog 9 #[.slice A0 ls.length c0, .slice A1 l0.length c1, .slice A2 l1.length c2] w fun e w' => e = .returned (.bool true) ∧ Below w.heap.size w w' := by
  have n0 := RowsIn.wr_length ls
  have n1 := StrsIn.wt_length l0
  have n2 := StrsIn.wt_length l1
  have hrw : ∀ l ∈ ls, l.length ≤ 1048576 := fun l h => by have := RowsIn.wr_mem h; have := RowsIn.wp_length l; omega
  obtain ⟨val, hv, hvs⟩ := val_of l0 l1 (fun s h => by have := StrsIn.wt_mem h; omega)
  have hpz : ∀ l ∈ ls, ∀ p ∈ l, p.f0.size ≤ 1048576 := fun l h p hp => by have := RowsIn.wr_mem h; have := RowsIn.wp_mem hp; omega
  have hval : ∀ l ∈ ls, ∀ p ∈ l, Val (tabv l0 l1) p (val p) := fun l h p hp => hv p (hpz l h p hp)
  have hcz : ∀ l ∈ ls, (cat val l).size ≤ 70368744177664 := fun l h => by
    have e1 := cat_size val l (fun p hp => hvs p (hpz l h p hp))
    have e2 := wrow_le l
    have e3 := RowsIn.wr_mem h
    have e4 : wrow l * 1048577 ≤ 1048576 * 1048577 := Nat.mul_le_mul_right _ (by omega)
    omega
  obtain ⟨bt, hbt⟩ := fits6_total ls 1048576 hrw (by omega)
  obtain ⟨b0, hb0, _⟩ := fits_some l0
  obtain ⟨b1, hb1, _⟩ := fits_some l1
  have HTw := Aside0.mk ht
  have H0w := Aside0.mk h0
  have H1w := Aside0.mk h1
  have HBT := Aside0.mk hbt
  have HB0 := Aside0.mk hb0
  have HB1 := Aside0.mk hb1
  have HRL := Aside0.mk (fun l (h : l ∈ ls) => Nat.le_trans (hrw l h) (show 1048576 ≤ 2147483647 by omega))
  have HVAL := Aside0.mk hval
  have HCZ := Aside0.mk hcz
  have HCZ2 := Aside0.mk (fun l (h : l ∈ ls) => Nat.le_trans (hcz l h) (show 70368744177664 ≤ 140737488355328 by omega))
  have G0 := Aside0.mk (fun s (h : s ∈ l0) => show s.size ≤ 281474976710656 by have := StrsIn.wt_mem h; omega)
  have G1 := Aside0.mk (fun s (h : s ∈ l1) => show s.size ≤ 281474976710656 by have := StrsIn.wt_mem h; omega)
  have HBw := Aside0.mk (Below.refl w.heap.size w)
  clear ht h0 h1 hbt hb0 hb1 hrw hv hvs hpz hval hcz
  go_enter Try.func9, Try.ntmps9
  go_wp2_with fail
  (with_reducible refine (laws_zzFits6.calls _ A0 c0 ls bt _ HTw.out hct HBT.out).mono ?_)
  rintro e wa ⟨rfl, ba⟩
  have HBa := Aside0.mk (below_then HBw.out HBw.out.size ba)
  have HTa := Aside0.mk (Kd.C_below HTw.out ba)
  have H0a := Aside0.mk (Kd.C_below H0w.out ba)
  have H1a := Aside0.mk (Kd.C_below H1w.out ba)
  clear ba HBw HTw H0w H1w
  cases bt with
  | false =>
    go_wp2_with fail
    go_ret
    exact ⟨rfl, HBa.out⟩
  | true =>
    go_wp2_with fail
    (with_reducible refine (laws_zzFits3.calls _ A1 c1 l0 b0 _ H0a.out hc0 HB0.out).mono ?_)
    rintro e wb ⟨rfl, hdb⟩
    have bb := hdb.below
    have HBb := Aside0.mk (below_then HBa.out HBa.out.size bb)
    have HTb := Aside0.mk (Kd.C_below HTa.out bb)
    have H0b := Aside0.mk (Kd.C_below H0a.out bb)
    have H1b := Aside0.mk (Kd.C_below H1a.out bb)
    clear hdb bb HBa HTa H0a H1a
    cases b0 with
    | false =>
      go_wp2_with fail
      go_ret
      exact ⟨rfl, HBb.out⟩
    | true =>
      go_wp2_with fail
      (with_reducible refine (laws_zzFits3.calls _ A2 c2 l1 b1 _ H1b.out hc1 HB1.out).mono ?_)
      rintro e wc ⟨rfl, hdc⟩
      have bc := hdc.below
      have HBc := Aside0.mk (below_then HBb.out HBb.out.size bc)
      have HTc := Aside0.mk (Kd.C_below HTb.out bc)
      have H0c := Aside0.mk (Kd.C_below H0b.out bc)
      have H1c := Aside0.mk (Kd.C_below H1b.out bc)
      clear hdc bc HBb HTb H0b H1b
      cases b1 with
      | false =>
        go_wp2_with fail
        go_ret
        exact ⟨rfl, HBc.out⟩
      | true =>
        go_wp2_with fail
        (with_reducible refine (Vars.vars_is A1 A2 c1 c2 l0 l1 _ (rd_of H0c.out) hc0 (by omega) G0.out).mono ?_)
        rintro e we ⟨bv, rfl, _, be⟩
        have HBe := Aside0.mk (below_then HBc.out HBc.out.size be)
        have HTe := Aside0.mk (Kd.C_below HTc.out be)
        have H0e := Aside0.mk (Kd.C_below H0c.out be)
        have H1e := Aside0.mk (Kd.C_below H1c.out be)
        clear be HBc HTc H0c H1c
        cases bv with
        | false =>
          go_wp2_with fail
          go_ret
          exact ⟨rfl, HBe.out⟩
        | true =>
          have HBE := Aside0.mk (Below.refl we.heap.size we)
          go_wp2_with fail
          go_loopw [7, 32] (fun v7 v32 wr => ∃ k : Nat, v32 = .int .i64 k ∧ k ≤ ls.length ∧ wr.ownsRow we.heap.size 9 1 v7 k (encs Value.string ((outs val ls).take k)) ∧ Below we.heap.size we wr) (fun _ v32 _ => ls.length - (intOf v32).toNat)
          case atStart => exact ⟨0, rfl, by omega, World.ownsRow_nil _ _ _ _, HBE.out⟩
          case round =>
            obtain ⟨wo, rfl⟩ : ∃ wo : World, wo = wr := ⟨_, rfl⟩
            obtain ⟨k, rfl, hk, hO, hB⟩ := hrel
            have HO := Aside0.mk hO
            have HB := Aside0.mk hB
            have HRo := Aside0.mk (Kd.C_below HTe.out hB)
            have H0o := Aside0.mk (Kd.C_below H0e.out hB)
            have H1o := Aside0.mk (Kd.C_below H1e.out hB)
            have hso := hB.size
            clear hO hB
            by_cases hk0 : k < ls.length
            · have d0 : decide ((k : Int) < (ls.length : Int)) = true := decide_eq_true (by omega)
              obtain ⟨ad, A3, c3, e0, hx0, _, hK⟩ := at_row HRo.out k hk0 rfl
              have hrl : ls[k].length ≤ 2147483647 := HRL.out _ (List.getElem_mem hk0)
              have hvr : ∀ p ∈ ls[k], Val (tabv l0 l1) p (val p) := HVAL.out _ (List.getElem_mem hk0)
              have hsr := HCZ.out _ (List.getElem_mem hk0)
              have hsn := outs_snoc val ls k hk0
              obtain ⟨row, hr⟩ : ∃ row, row = ls[k] := ⟨_, rfl⟩
              rw [← hr] at hx0 hK hrl hvr hsr hsn
              have HK := Aside0.mk hK
              have HVR := Aside0.mk hvr
              have HSN := Aside0.mk hsn
              have HBO := Aside0.mk (Below.refl wo.heap.size wo)
              clear hr hK hvr hsn
              cases e0
              go_wp2_with fail
              go_loopw [10, 38] (fun v10 v38 wi => ∃ q : Nat, v38 = .int .i64 q ∧ q ≤ row.length ∧ v10 = .string (cat val (row.take q)) ∧ Below wo.heap.size wo wi) (fun _ v38 _ => row.length - (intOf v38).toNat)
              case atStart => exact ⟨0, rfl, by omega, rfl, HBO.out⟩
              case round =>
                obtain ⟨q, rfl, hq, rfl, hBi⟩ := hrel
                have HBi := Aside0.mk hBi
                have HKi := Aside0.mk (Kd.C_below HK.out hBi)
                have hsi := hBi.size
                clear hBi
                by_cases hq0 : q < row.length
                · have dq : decide ((q : Int) < (row.length : Int)) = true := decide_eq_true (by omega)
                  obtain ⟨ad2, e2, hy0, hy1⟩ := at_T40 HKi.out (q : Int) (by omega) (by omega)
                  have hct := cat_take val row q hq0
                  have hcl := cat_take_le val row (q + 1)
                  have hvp := HVR.out _ (List.getElem_mem hq0)
                  obtain ⟨p, hp⟩ : ∃ p, p = rd_T40 row (q : Int) := ⟨_, rfl⟩
                  have hpe : p = row[q] := by rw [hp, rd_at40 row q hq0]
                  rw [← hp] at hy0 hy1
                  rw [← hpe] at hct hvp
                  clear hp hpe
                  rw [hct, ByteArray.size_append] at hcl
                  have HCT := Aside0.mk hct
                  cases e2
                  obtain ⟨t, m⟩ := p
                  simp only [Int.toNat_natCast] at hy0 hy1
                  have hba := HBi.out.alloc HBi.out.size (.cells #[.string t, .bool m] 40)
                  have HBA := Aside0.mk hba
                  clear hba hct
                  obtain ⟨C, hC⟩ : ∃ C, C = cat val (row.take q) := ⟨_, rfl⟩
                  rw [← hC] at hcl ⊢
                  have HC := Aside0.mk hC
                  clear hC
                  rcases hvp with ⟨hm1, hv1⟩ | ⟨hm1, hv1, hv2, hv3⟩
                  · have hm1' : m = true := hm1
                    subst hm1'
                    have hv1' : val ⟨t, true⟩ = t := hv1
                    rw [hv1'] at hcl
                    have HV := Aside0.mk hv1'
                    clear hv1 hm1 hv1'
                    go_wp2_with fail
                    go_roundw
                    case rel => exact ⟨q + 1, by go_num, by omega, by rw [HCT.out, HV.out, ← HC.out], HBA.out⟩
                    case measure => simp [intOf]; omega
                  · have hm1' : m = false := hm1
                    subst hm1'
                    have HX := Aside0.mk (show Ex (tabv l0 l1) t 0 (val ⟨t, false⟩) from hv1)
                    have hv2' : t.size ≤ 35184372088832 := hv2
                    obtain ⟨o, ho⟩ : ∃ o, o = val ⟨t, false⟩ := ⟨_, rfl⟩
                    rw [← ho] at hcl hv3 HX
                    have HV := Aside0.mk ho
                    have H0i := Aside0.mk (rd_of (Kd.C_below H0o.out HBA.out))
                    have H1i := Aside0.mk (rd_of (Kd.C_below H1o.out HBA.out))
                    clear hv1 hv2 hm1 ho
                    go_wp2_with fail
                    (with_reducible refine (env_is A1 A2 c1 c2 l0 l1 t o _ H0i.out H1i.out (by omega) (by omega) G0.out G1.out hv2' hv3 HX.out).mono ?_)
                    rintro e w3 ⟨rfl, b3⟩
                    have HB3 := Aside0.mk (below_then HBA.out HBA.out.size b3)
                    clear b3
                    go_wp2_with fail
                    go_roundw
                    case rel => exact ⟨q + 1, by go_num, by omega, by rw [HCT.out, ← HV.out, ← HC.out], HB3.out⟩
                    case measure => simp [intOf]; omega
                · obtain rfl : q = row.length := by omega
                  have dq : decide ((row.length : Int) < (row.length : Int)) = false := decide_eq_false (by omega)
                  rw [List.take_length]
                  have HB3 := Aside0.mk (below_then HB.out hso HBi.out)
                  have HOB := Aside0.mk (pw_own_below HO.out HBi.out)
                  have hlen := outs_len val ls k (by omega)
                  have hO2 : wr.ownsRow we.heap.size 9 1 u7 ((outs val ls).take k).length (encs Value.string ((outs val ls).take k)) := by rw [hlen]; exact HOB.out
                  have HO3 := Aside0.mk hO2
                  have HLEN := Aside0.mk hlen
                  clear hO2 hlen
                  go_wp2_with (at_builtin; refine print_append_of (w0 := we) Value.string we.heap.size rfl (.tmp 56) (.tmp 58) 24 9 (.string ⟨#[]⟩) 16 rfl Try.underlying24 info9 rfl (by decide) u7 ((outs val ls).take k) (cat val row) rfl rfl rfl HO3.out HB3.out HB3.out.size (by rw [HLEN.out]; omega) ?_; intro v1 w4 hO4 hB4 hg4 _)
                  have HO4 := Aside0.mk (show w4.ownsRow we.heap.size 9 1 v1 (k + 1) (encs Value.string ((outs val ls).take (k + 1))) by
                    rw [HSN.out]
                    have := hO4
                    rwa [List.length_append, HLEN.out] at this)
                  have HB4 := Aside0.mk hB4
                  clear hO4 hB4 hg4
                  go_roundw
                  case rel => exact ⟨k + 1, by go_num, by omega, HO4.out, HB4.out⟩
                  case measure => simp [intOf]; omega
            · obtain rfl : k = ls.length := by omega
              have d0 : decide ((ls.length : Int) < (ls.length : Int)) = false := decide_eq_false (by omega)
              have hO2 := HO.out
              rw [List.take_of_length_le (by simp [outs])] at hO2
              obtain ⟨Aw, cw, rfl⟩ := own_slice hO2
              have hon : (outs val ls).length = ls.length := by simp [outs]
              have hO3 : wo.ownsRow we.heap.size 9 1 (.slice Aw ls.length cw) (outs val ls).length (encs Value.string (outs val ls)) := by rw [hon]; exact hO2
              obtain ⟨hwc, hWC⟩ : ls.length ≤ cw ∧ Kd.C Kd.string wo Aw ls.length (outs val ls) := by
                obtain ⟨h1, h2, h3⟩ := Kd.R_reads' (Kd.R_of_own (h1 := fun _ => rfl) (ok := fun _ => True) hO3 (fun _ _ => trivial))
                rw [hon] at h3
                exact ⟨h2, h3⟩
              have HWC := Aside0.mk hWC
              have HON := Aside0.mk hon
              clear hO2 hO3 hon hWC
              go_wp2_with fail
              (with_reducible refine (impl_args2 A1 A2 A0 c1 c2 c0 l0 l1 ls _ (rd_of H0o.out) (rd_of H1o.out) HRo.out (by omega) (by omega) G0.out G1.out val (by omega) HRL.out HVAL.out HCZ2.out).mono ?_)
              rintro e wf ⟨⟨Af, cf, rfl, hcf, hCf⟩, bf⟩
              have HCF := Aside0.mk hCf
              have HBF := Aside0.mk (below_then HBe.out HBe.out.size (below_then HB.out hso bf))
              have HWF := Aside0.mk (Kd.C_below HWC.out bf)
              clear hCf bf
              go_wp2_with fail
              (with_reducible refine (same2 Af Aw cf cw ls.length (outs val ls) _ HON.out (by omega) HCF.out hcf HWF.out hwc).mono ?_)
              rintro e wg ⟨rfl, hdg⟩
              have HBG := Aside0.mk (below_then HBF.out HBF.out.size hdg.below)
              clear hdg
              go_wp2_with fail
              refine (fixed_env wg).mono ?_
              rintro e wi ⟨rfl, bi⟩
              have HBI := Aside0.mk (below_then HBG.out HBG.out.size bi)
              clear bi
              go_wp2_with fail
              go_ret
              exact ⟨rfl, HBI.out⟩

end Go.Proofs.Ytopmkiadoacipaa.Args

/- The walk of the law FnArgsQuoted. -/
import Derived.Test.YtopmkiadoacipaaArgsAll
import Derived.Test.YtopmkiadoacipaaFixEnv
namespace Go.Proofs.Ytopmkiadoacipaa.Args
open Go.RowKit Go.Proofs.YtopmkiadoacipaaW.PrintWords Go.Proofs.Ytopmkiadoacipaa.Tab Go.Proofs.Ytopmkiadoacipaa.Xp Go.Proofs.Ytopmkiadoacipaa.PFnExpandMade Go.Proofs.Ytopmkiadoacipaa.FixEnv
open Go.Proofs.Ytopmkiadoacipaa.PFnArgsExpanded (S40 k40 k40_mkM spec_ScSame.l0 spec_ScSame.f spec_ScSame.calls)

theorem info38 : (Try.prog.info? 38).map (fun i => (i.zero, i.size, i.bytes)) = some (some (.slice none 0 0), 1, 24) := by kernel_rfl

theorem same_from (l : List ByteArray) (hl : l.length ≤ 281474976710656) (d : Nat) : ∀ (k i : Nat), i ≤ l.length → l.length - i = d → d < k → spec_ScSame.l0 k l l (l.length : Int) (i : Int) = some true := by
  induction d with
  | zero =>
    intro k i h1 hd hk
    obtain ⟨k, rfl⟩ : ∃ m, k = m + 1 := ⟨k - 1, by omega⟩
    simp only [spec_ScSame.l0]
    rw [if_neg (by omega)]
  | succ d ih =>
    intro k i h1 hd hk
    obtain ⟨k, rfl⟩ : ∃ m, k = m + 1 := ⟨k - 1, by omega⟩
    simp only [spec_ScSame.l0]
    rw [if_pos (by omega), if_pos (by omega), if_pos (by omega), if_pos (by omega), if_pos trivial, wrap_next (n := l.length) (by omega) (by omega) (by omega)]
    exact ih k (i + 1) (by omega) (by omega) (by omega)

theorem same_true (l : List ByteArray) (hl : l.length ≤ 281474976710656) : spec_ScSame.f (l.length + 1) l l = some true := by
  unfold spec_ScSame.f
  rw [if_pos rfl]
  exact same_from l hl l.length (l.length + 1) 0 (by omega) (by omega) (by omega)

theorem lit_row (W : World) (t : ByteArray) (m : Bool) : k40.R 40 (W.alloc (.cells #[.string t, .bool m] 40)) W.heap.size (fun _ => True) (.slice (some ⟨W.heap.size, 0, none⟩) 1 1) [⟨t, m⟩] := by
  have e1 : (W.alloc (.cells #[.string t, .bool m] 40)).ownsRow W.heap.size 40 2 (.slice (some ⟨W.heap.size, 0, none⟩) 1 1) 1 [.string t, .bool m] := by
    have h := World.ownsRow_lit (base := W.heap.size) (e := 40) (size := 2) W #[.string t, .bool m] 1 (Nat.le_refl _) (by decide) (by simp)
    simpa using h
  have e2 : Reps (k40.M (W.alloc (.cells #[.string t, .bool m] 40)) W.heap.size (fun k => True ∧ some k ≠ (Value.slice (some ⟨W.heap.size, 0, none⟩) 1 1).ownBlock)) 2 [⟨t, m⟩] [.string t, .bool m] :=
    (Reps.none _ 2).snoc (k40_mkM _ _ _ ⟨t, m⟩) rfl
  exact ⟨fun _ _ => trivial, [.string t, .bool m], e1, e2⟩

theorem impl_args' (A0 A1 A2 : Option Addr) (c0 c1 c2 : Nat) (l0 l1 : List ByteArray) (ls : List (List S40)) (m : Nat) (L : List ByteArray) (w : World) (hmm : ls.length = m) (h0 : Rd w A0 l0.length l0) (h1 : Rd w A1 l1.length l1) (h2 : Kd.C (Kd.slice 40 k40) w A2 m ls)
    (hl0 : l0.length ≤ 281474976710656) (hl1 : l1.length ≤ 281474976710656) (hs0 : ∀ s ∈ l0, s.size ≤ 281474976710656) (hs1 : ∀ s ∈ l1, s.size ≤ 281474976710656) (val : S40 → ByteArray) (hL : outs val ls = L)
    (hl : m ≤ 2147483647) (hll : ∀ l ∈ ls, l.length ≤ 2147483647) (hval : ∀ l ∈ ls, ∀ p ∈ l, Val (tabv l0 l1) p (val p)) (hsz : ∀ l ∈ ls, (cat val l).size ≤ 140737488355328) :
    Calls Try.prog 23 #[.slice A0 l0.length c0, .slice A1 l1.length c1, .slice A2 m c2, .slice none 0 0] w fun e w' => (∃ A c, e = .returned (.slice A L.length c) ∧ L.length ≤ c ∧ Kd.C Kd.string w' A L.length L) ∧ Below w.heap.size w w' := by
  subst hmm hL
  refine (impl_args A0 A1 A2 c0 c1 c2 l0 l1 ls w h0 h1 h2 hl0 hl1 hs0 hs1 val hl hll hval hsz).mono ?_
  rintro e w' ⟨⟨v, rfl, hO⟩, hB⟩
  have hn : (outs val ls).length = ls.length := by simp [outs]
  rw [← hn] at hO
  obtain ⟨A, c, rfl, hc, hC⟩ := Kd.R_reads (Kd.R_of_own (h1 := fun _ => rfl) (ok := fun _ => True) hO (fun _ _ => trivial))
  exact ⟨⟨A, c, rfl, hc, hC⟩, hB⟩

/-- each text as an argument of one quoted piece -/
def qs (l : List ByteArray) : List (List S40) := l.map fun s => [⟨s, true⟩]

theorem qs_len (l : List ByteArray) : (qs l).length = l.length := by simp [qs]
theorem qs_mem {l : List ByteArray} {r : List S40} (h : r ∈ qs l) : ∃ s ∈ l, r = [⟨s, true⟩] := by
  obtain ⟨s, hs, rfl⟩ := List.mem_map.1 h
  exact ⟨s, hs, rfl⟩
theorem qs_outs (l : List ByteArray) : outs (fun p => p.f0) (qs l) = l := by
  unfold outs qs
  rw [List.map_map]
  have : (cat (fun p => p.f0) ∘ fun s => [(⟨s, true⟩ : S40)]) = id := by
    funext s
    simp [cat]
  rw [this, List.map_id]

theorem qs_short (l : List ByteArray) : ∀ r ∈ qs l, r.length ≤ 2147483647 := fun r hr => by
  obtain ⟨s, _, rfl⟩ := qs_mem hr
  simp
theorem qs_val (l : List ByteArray) (f : ByteArray → ByteArray) : ∀ r ∈ qs l, ∀ p ∈ r, Val f p ((fun p : S40 => p.f0) p) := fun r hr p hp => by
  obtain ⟨s, _, rfl⟩ := qs_mem hr
  rw [List.mem_singleton] at hp
  subst hp
  exact Or.inl ⟨rfl, rfl⟩
theorem qs_size (l : List ByteArray) (h : ∀ s ∈ l, s.size ≤ 2147483647) : ∀ r ∈ qs l, (cat (fun p => p.f0) r).size ≤ 140737488355328 := fun r hr => by
  obtain ⟨s, hs, rfl⟩ := qs_mem hr
  have := h s hs
  simp only [cat, ByteArray.size_append]
  have e0 : ByteArray.empty.size = 0 := rfl
  omega

set_option maxHeartbeats 8000000 in
set_option maxRecDepth 100000 in
theorem walk_quoted (A0 A1 A2 : Option Addr) (c0 c1 c2 : Nat) (lt l0 l1 : List ByteArray) (w : World) (ht : Kd.C Kd.string w A0 lt.length lt) (hct : lt.length ≤ c0) (h0 : Kd.C Kd.string w A1 l0.length l0) (hc0 : l0.length ≤ c1)
    (h1 : Kd.C Kd.string w A2 l1.length l1) (hc1 : l1.length ≤ c2) :
    Calls Try.prog 10 #[.slice A0 lt.length c0, .slice A1 l0.length c1, .slice A2 l1.length c2] w fun e w' => e = .returned (.bool true) ∧ Below w.heap.size w w' := by
  obtain ⟨bt, hbt, hbs⟩ := fits_some lt
  obtain ⟨b0, hb0, hs0⟩ := fits_some l0
  obtain ⟨b1, hb1, hs1⟩ := fits_some l1
  have HTw := Aside0.mk ht
  have H0w := Aside0.mk h0
  have H1w := Aside0.mk h1
  have HBT := Aside0.mk hbt
  have HB0 := Aside0.mk hb0
  have HB1 := Aside0.mk hb1
  have HST := Aside0.mk hbs
  have HS0 := Aside0.mk hs0
  have HS1 := Aside0.mk hs1
  have HBw := Aside0.mk (Below.refl w.heap.size w)
  clear ht h0 h1 hbt hb0 hb1 hbs hs0 hs1
  go_enter Try.func10, Try.ntmps10
  go_wp2_with fail
  (with_reducible refine (laws_zzFits3.calls _ A0 c0 lt bt _ HTw.out hct HBT.out).mono ?_)
  rintro e wa ⟨rfl, hda⟩
  have ba := hda.below
  have HBa := Aside0.mk (below_then HBw.out HBw.out.size ba)
  have HTa := Aside0.mk (Kd.C_below HTw.out ba)
  have H0a := Aside0.mk (Kd.C_below H0w.out ba)
  have H1a := Aside0.mk (Kd.C_below H1w.out ba)
  clear hda ba HBw HTw H0w H1w
  cases bt with
  | false =>
    go_wp2_with fail
    go_ret
    exact ⟨rfl, HBa.out⟩
  | true =>
    obtain ⟨htl, htz⟩ := HST.out rfl
    have HTZ := Aside0.mk htz
    clear htz HST
    go_wp2_with fail
    (with_reducible refine (laws_zzFits3.calls _ A1 c1 l0 b0 _ H0a.out hc0 HB0.out).mono ?_)
    rintro e wb ⟨rfl, hdb⟩
    have bb := hdb.below
    have HBb := Aside0.mk (below_then HBa.out HBa.out.size bb)
    have HTb := Aside0.mk (Kd.C_below HTa.out bb)
    have H0b := Aside0.mk (Kd.C_below H0a.out bb)
    have H1b := Aside0.mk (Kd.C_below H1a.out bb)
    clear hdb bb HBa HTa H0a H1a
    cases b0 with
    | false =>
      go_wp2_with fail
      go_ret
      exact ⟨rfl, HBb.out⟩
    | true =>
      obtain ⟨h0l, h0z⟩ := HS0.out rfl
      have G0 := Aside0.mk (fun s (h : s ∈ l0) => Nat.le_trans (h0z s h) (show 2147483647 ≤ 281474976710656 by omega))
      clear h0z HS0
      go_wp2_with fail
      (with_reducible refine (laws_zzFits3.calls _ A2 c2 l1 b1 _ H1b.out hc1 HB1.out).mono ?_)
      rintro e wc ⟨rfl, hdc⟩
      have bc := hdc.below
      have HBc := Aside0.mk (below_then HBb.out HBb.out.size bc)
      have HTc := Aside0.mk (Kd.C_below HTb.out bc)
      have H0c := Aside0.mk (Kd.C_below H0b.out bc)
      have H1c := Aside0.mk (Kd.C_below H1b.out bc)
      clear hdc bc HBb HTb H0b H1b
      cases b1 with
      | false =>
        go_wp2_with fail
        go_ret
        exact ⟨rfl, HBc.out⟩
      | true =>
        obtain ⟨h1l, h1z⟩ := HS1.out rfl
        have G1 := Aside0.mk (fun s (h : s ∈ l1) => Nat.le_trans (h1z s h) (show 2147483647 ≤ 281474976710656 by omega))
        clear h1z HS1
        go_wp2_with fail
        (with_reducible refine (Vars.vars_is A1 A2 c1 c2 l0 l1 _ (rd_of H0c.out) hc0 (by omega) G0.out).mono ?_)
        rintro e we ⟨bv, rfl, _, be⟩
        have HBe := Aside0.mk (below_then HBc.out HBc.out.size be)
        have HTe := Aside0.mk (Kd.C_below HTc.out be)
        have H0e := Aside0.mk (Kd.C_below H0c.out be)
        have H1e := Aside0.mk (Kd.C_below H1c.out be)
        clear be HBc HTc H0c H1c
        cases bv with
        | false =>
          go_wp2_with fail
          go_ret
          exact ⟨rfl, HBe.out⟩
        | true =>
          have HBE := Aside0.mk (Below.refl we.heap.size we)
          go_wp2_with fail
          go_loopw [7, 29] (fun v7 v29 wr => ∃ k : Nat, v29 = .int .i64 k ∧ k ≤ lt.length ∧ (Kd.slice 40 k40).R 38 wr we.heap.size (fun _ => True) v7 ((qs lt).take k) ∧ Below we.heap.size we wr) (fun _ v29 _ => lt.length - (intOf v29).toNat)
          case atStart => exact ⟨0, rfl, by omega, Kd.R_nil _ _ _ _ _, HBE.out⟩
          case round =>
            obtain ⟨k, rfl, hk, hR, hB⟩ := hrel
            have HR := Aside0.mk hR
            have HB := Aside0.mk hB
            have hsr := hB.size
            clear hR hB
            by_cases hk0 : k < lt.length
            · have d0 : decide ((k : Int) < (lt.length : Int)) = true := decide_eq_true (by omega)
              obtain ⟨ad, e0, hx0⟩ := (Kd.reads_of_C (enc := Value.string) (d := ByteArray.empty) (h1 := fun _ => rfl) (Kd.C_below HTe.out HB.out)).at_ (k : Int) (by omega) (by omega)
              obtain ⟨t, ht⟩ : ∃ t, t = rdOf ByteArray.empty lt (k : Int) := ⟨_, rfl⟩
              have hsn : (qs lt).take (k + 1) = (qs lt).take k ++ [[⟨t, true⟩]] := by
                rw [List.take_succ_eq_append_getElem (by rw [qs_len]; exact hk0), ht, rdOf_at lt k hk0]; simp [qs]
              rw [← ht] at hx0
              have HSN := Aside0.mk hsn
              clear ht hsn
              cases e0
              simp only [Int.toNat_natCast] at hx0
              have hql : ((qs lt).take k).length ≤ 2147483647 := by rw [List.length_take, qs_len]; omega
              have hbl := (Below.refl wr.heap.size wr).alloc (Nat.le_refl _) (.cells #[.string t, .bool true] 40)
              have hRl := Kd.R_below HR.out hbl
              have HRL := Aside0.mk hRl
              have HBL := Aside0.mk (HB.out.alloc HB.out.size (.cells #[.string t, .bool true] 40))
              have HLR := Aside0.mk (Kd.R_apartR (Kd.R_lower (lit_row wr t true) hsr) hRl (by decide))
              have HZ : Aside0 ((wr.alloc (.cells #[.string t, .bool true] 40)).heap.size = wr.heap.size + 1) := Aside0.mk (by simp)
              clear hbl hRl
              go_wp2_with (at_builtin; refine Kd.R_append (Kd.slice 40 k40) (w0 := we) we.heap.size rfl (.tmp 33) (.tmp 37) 36 38 (.slice none 0 0) 24 rfl Try.underlying36 info38 rfl (by decide) (by decide) u7 ((qs lt).take k) [⟨t, true⟩] [.slice (some ⟨wr.heap.size, 0, none⟩) 1 1] (fun _ => True) _ rfl (by rw [HZ.out]; rfl) (Kd.M_row HLR.out) (fun _ h => h) (fun _ _ => trivial) HRL.out HBL.out HBL.out.size (by omega) ?_; intro v1 w1 hR1 hB1 hg1 _; have HR1 := Aside0.mk hR1; have HB1 := Aside0.mk hB1; clear hR1 hB1 hg1)
              go_roundw
              case rel => exact ⟨k + 1, by go_num, by omega, by rw [HSN.out]; exact HR1.out, HB1.out⟩
              case measure => simp [intOf]; omega
            · obtain rfl : k = lt.length := by omega
              have d0 : decide ((lt.length : Int) < (lt.length : Int)) = false := decide_eq_false (by omega)
              have hR2 := HR.out
              rw [List.take_of_length_le (by rw [qs_len]; exact Nat.le_refl _)] at hR2
              obtain ⟨Ar, cr, hv, _, hC⟩ := Kd.R_reads hR2
              rw [qs_len] at hv hC
              subst hv
              have HC := Aside0.mk hC
              have HQL := Aside0.mk (qs_len lt)
              have HQO := Aside0.mk (qs_outs lt)
              clear hR2 hC
              go_wp2_with fail
              (with_reducible refine (impl_args' A1 A2 Ar c1 c2 cr l0 l1 (qs lt) lt.length lt _ HQL.out (rd_of (Kd.C_below H0e.out HB.out)) (rd_of (Kd.C_below H1e.out HB.out)) HC.out (by omega) (by omega) G0.out G1.out (fun p => p.f0) HQO.out htl (qs_short lt) (qs_val lt _) (qs_size lt HTZ.out)).mono ?_)
              rintro e wf ⟨⟨Af, cf, rfl, hcf, hCf⟩, bf⟩
              have hB2 := below_then HB.out hsr bf
              have HCF := Aside0.mk hCf
              have HBF := Aside0.mk (below_then HBe.out HBe.out.size hB2)
              have HTF := Aside0.mk (Kd.C_below HTe.out hB2)
              have HSM := Aside0.mk (same_true lt (by omega))
              clear hB2 hCf bf
              go_wp2_with fail
              (with_reducible refine (spec_ScSame.calls _ Af cf lt A0 c0 lt true _ HCF.out hcf HTF.out hct HSM.out).mono ?_)
              rintro e wg ⟨rfl, hdg⟩
              have HBG := Aside0.mk (below_then HBF.out HBF.out.size hdg.below)
              clear hdg
              go_wp2_with fail
              refine (fixed_env wg).mono ?_
              rintro e wi ⟨rfl, bi⟩
              have HBI := Aside0.mk (below_then HBG.out HBG.out.size bi)
              clear bi
              go_wp2_with fail
              go_ret
              exact ⟨rfl, HBI.out⟩

end Go.Proofs.Ytopmkiadoacipaa.Args

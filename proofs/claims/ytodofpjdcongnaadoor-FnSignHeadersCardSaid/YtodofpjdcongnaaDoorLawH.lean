/- FnSignHeaders: what the signer writes is what the law's own specification lays, and noughts behind it. -/
import Derived.Test.YtodofpjdcongnaaDoorHeads
import Derived.Test.YtodofpjdcongnaaDoorFronts
import Derived.LoopN
namespace Go.Proofs.YtodofpjdcongnaaDoor.Sign
open Go.RowKit Go.Proofs.YtodofpjdcongnaaDoorW.PrintWords Go.Proofs.YtodofpjdcongnaaDoor.PFnSignHeaders

theorem hdr_len (n : Nat) (id : ByteArray) (from_ long : Int) (main : Bool) : (hdr n id from_ long main).length = 109 + id.size := by
  unfold hdr
  simp only [List.length_append, be32_len, be64_len, List.length_cons, List.length_nil, bytesOf_length, ByteArray.size_append]
  show _ + (id.size + 1) = _
  omega

theorem bytes_snoc (id : ByteArray) : bytesOf (id ++ ⟨#[0]⟩) = bytesOf id ++ [0] := by
  unfold bytesOf
  rw [ByteArray.data_append, Array.toList_append, List.map_append]
  rfl

theorem hdr_eq (n : Nat) (id : ByteArray) (from_ long : Int) (main : Bool) (sz pg : Nat) (hsz : sz = szN n id) (hpg : pg = (n + 4095) / 4096) :
    be32 4208856256 ++ be32 (sz : Int) ++ be32 1 ++ be32 0 ++ be32 20 ++ flat (nine n sz pg id) ++ [32, 2, 0, 12] ++ be32 0 ++ be32 0 ++ be32 0 ++ be32 0 ++ be64 0 ++ be64 (IntKind.u64.wrap from_) ++ be64 (IntKind.u64.wrap long) ++ be64 (if main then 1 else 0) ++ bytesOf id ++ [0] = hdr n id from_ long main := by
  have e1 : ((n : Int) + 4096 - 1) / 4096 = (pg : Int) := by rw [hpg]; omega
  unfold hdr
  rw [e1, ← hsz, bytes_snoc]
  simp only [nine, flat, List.flatMap_cons, List.flatMap_nil, List.append_assoc, List.append_nil, List.cons_append, List.nil_append]

theorem St.C {w : World} {G N : Nat} {pre : List Int} (h : St w G N pre) (hm : pre.length ≤ 9223372036854775807) : Kd.C (Kd.int .u8) w (some ⟨G, 0, none⟩) pre.length pre := by
  refine ⟨rfl, hm, fun _ => ⟨_, rfl, fun j p hj => ⟨[.int .u8 p], rfl, rfl, fun i u hi => ?_⟩⟩⟩
  have hi0 : i = 0 := by
    cases i with
    | zero => rfl
    | succ i => cases hi
  subst hi0
  have hu : u = .int .u8 p := (Option.some.inj hi).symm
  subst hu
  rw [add_plain, blk_cell h.2, show j * (Kd.int IntKind.u8).sz + 0 = j from by rw [show (Kd.int IntKind.u8).sz = 1 from rfl]; omega]
  rw [List.getElem?_toArray]
  have hjl : j < pre.length := (List.getElem?_eq_some_iff.1 hj).1
  simp only [nums, List.getElem?_map, List.getElem?_append_left hjl, hj, Option.map_some]

theorem same_is (L : List Int) : spec_SameBytes.f L L = some true := by
  unfold spec_SameBytes.f
  rw [beq_self_eq_true]

theorem same_call (A0 : Option Addr) (c0 : Nat) (A1 : Option Addr) (c1 : Nat) (L : List Int) (k : Nat) (w : World) (hk : L.length = k) (h0 : Kd.C (Kd.int .u8) w A0 L.length L) (hc0 : k ≤ c0) (h1 : Kd.C (Kd.int .u8) w A1 L.length L) (hc1 : k ≤ c1) :
    Calls Tryd.prog 11 #[.slice A0 k c0, .slice A1 k c1] w fun e w' => e = .returned (.bool true) ∧ Drawn0 w w' := by
  subst hk
  exact spec_SameBytes.calls A0 c0 L A1 c1 L true w h0 hc0 h1 hc1 (same_is L)

theorem fronts_hdr (n : Nat) (id : ByteArray) (from_ long : Int) (main : Bool) (w : World) (hn : n ≤ 1048576) (hid : id.size ≤ 2147483647) :
    Calls Tryd.prog 9 #[.string id, .int .i64 (n : Int), .int .i64 from_, .int .i64 long, .bool main] w fun e w' => ∃ A c, e = .returned (.slice A (109 + id.size) c) ∧ (109 + id.size) ≤ c ∧ Kd.C (Kd.int .u8) w' A (hdr n id from_ long main).length (hdr n id from_ long main) ∧ Below w.heap.size w w' := by
  refine (fronts n id from_ long main w hn hid (szN n id) ((n + 4095) / 4096) rfl rfl).mono ?_
  rintro e w' ⟨v, rfl, hR, hB⟩
  rw [hdr_eq n id from_ long main (szN n id) ((n + 4095) / 4096) rfl rfl] at hR
  obtain ⟨A, c, rfl, hc, hC⟩ := Kd.R_reads hR
  rw [hdr_len] at hc
  exact ⟨A, c, by rw [hdr_len], hc, hC, hB⟩

set_option maxHeartbeats 8000000 in
set_option maxRecDepth 100000 in
theorem law_headers (n : Int) (id : ByteArray) (from_ long : Int) (main : Bool) (w : World) (hf : -9223372036854775808 ≤ from_ ∧ from_ ≤ 9223372036854775807) (hl : -9223372036854775808 ≤ long ∧ long ≤ 9223372036854775807) :
    Calls Tryd.prog 3 #[.int .i64 n, .string id, .int .i64 from_, .int .i64 long, .bool main] w fun e w' => e = .returned (.bool true) ∧ Below w.heap.size w w' := by
  have HF := Aside0.mk hf
  have HL := Aside0.mk hl
  clear hf hl
  go_enter Tryd.func3, Tryd.ntmps3
  by_cases h1 : 2147483647 < id.size
  · have d1 : decide ((id.size : Int) > 2147483647) = true := decide_eq_true (by omega)
    go_wp2
    go_ret
    exact ⟨rfl, Below.refl _ _⟩
  have d1 : decide ((id.size : Int) > 2147483647) = false := decide_eq_false (by omega)
  by_cases h2 : n < 0
  · have d2 : decide (n < 0) = true := decide_eq_true h2
    go_wp2
    go_ret
    exact ⟨rfl, Below.refl _ _⟩
  have d2 : decide (n < 0) = false := decide_eq_false h2
  by_cases h3 : 1048576 < n
  · have d3 : decide (n > 1048576) = true := decide_eq_true h3
    go_wp2
    go_ret
    exact ⟨rfl, Below.refl _ _⟩
  have d3 : decide (n > 1048576) = false := decide_eq_false h3
  obtain ⟨m, rfl⟩ := Int.eq_ofNat_of_zero_le (Int.not_lt.1 h2)
  have hm : m ≤ 1048576 := by omega
  have hid : id.size ≤ 2147483647 := by omega
  obtain ⟨N, hN⟩ : ∃ N, N = szN m id := ⟨_, rfl⟩
  have hNb : 109 + id.size ≤ N ∧ N ≤ 109 + id.size + 8192 := by
    have : (m + 4095) / 4096 ≤ 256 := by omega
    unfold szN at hN
    omega
  have hss : spec_Size.f (m : Int) id = some (N : Int) := by rw [spec_size_is m id hm hid, hN]; rfl
  have HSS := Aside0.mk hss
  have HN := Aside0.mk hN
  clear hss hN h1 h2 h3
  go_wp2_with fail
  (with_reducible refine (heads N m id from_ long main _ HN.out hm hid HF.out HL.out).mono ?_)
  rintro e w1 ⟨G, hG, rfl, hs, hb⟩
  have HS1 := Aside0.mk hs
  have HB1 := Aside0.mk hb
  clear hs hb hG
  go_wp2_with fail
  (with_reducible refine (fronts_hdr m id from_ long main _ hm hid).mono ?_)
  rintro e w2 ⟨A, c, rfl, hc, hC, hb⟩
  have HS2 := Aside0.mk (HS1.out.below hb)
  have HB2 := Aside0.mk (below_step HB1.out hb)
  have HC2 := Aside0.mk hC
  clear hb hC
  go_wp2_with fail
  (with_reducible refine (spec_Size.calls _ _ _ _ HSS.out).mono ?_)
  rintro e w3 ⟨rfl, hd⟩
  have HS3 := Aside0.mk (HS2.out.below hd.below)
  have HB3 := Aside0.mk (below_step HB2.out hd.below)
  have HC3 := Aside0.mk (Kd.C_below HC2.out hd.below)
  clear hd
  have hne : ((N : Int) != (N : Int)) = false := by simp
  go_wp2_with fail
  (with_reducible refine (same_call _ _ _ _ _ _ _ (hdr_len m id from_ long main) ?s1 hNb.1 HC3.out hc).mono ?_)
  case s1 =>
    have z := HS3.out.C (by rw [hdr_len]; omega)
    exact z
  rintro e w4 ⟨rfl, hd⟩
  have HS4 := Aside0.mk (HS3.out.below hd.below)
  have HB4 := Aside0.mk (below_step HB3.out hd.below)
  clear hd HS1 HS2 HS3 HB1 HB2 HB3 HC2 HC3 HSS HN HF HL
  go_wp2_with fail
  case inl hz =>
    have d0 : decide ((0 : Int) < (0 : Int)) = false := rfl
    refine wp_loop_rounds 1 ?_
    rw [rounds_succ]
    go_wp2
    go_ret
    exact ⟨rfl, HB4.out⟩
  case inr hz =>
    obtain ⟨q, hq⟩ : ∃ q, q = N - (109 + id.size) := ⟨_, rfl⟩
    have HQ := Aside0.mk hq
    rw [← hq]
    clear hq
    go_loopw [14, 56] (fun v14 v56 wr => ∃ k : Nat, v56 = .int .i64 k ∧ k ≤ q ∧ wr = w4) (fun _ v56 _ => q - (intOf v56).toNat)
    case atStart => exact ⟨0, rfl, Nat.zero_le _, rfl⟩
    case round =>
      obtain ⟨k, rfl, hk, rfl⟩ := hrel
      by_cases hk0 : k < q
      · have d0 : decide ((k : Int) < (q : Int)) = true := decide_eq_true (by omega)
        have hc0 := HS4.out.zero (109 + id.size + k) (by rw [hdr_len]; omega) (by have := HQ.out; omega)
        have hk9 : k + 1 ≤ 8192 := by
          have := HQ.out
          omega
        go_wp2_with fail
        exact ⟨⟨k + 1, rfl, hk0, trivial⟩, by simp only [intOf]; omega⟩
      · obtain rfl : k = q := by omega
        have d0 : decide ((k : Int) < (k : Int)) = false := decide_eq_false (by omega)
        go_wp2
        go_ret
        exact ⟨rfl, HB4.out⟩
end Go.Proofs.YtodofpjdcongnaaDoor.Sign

/- FnSignReader: code in a reader has the same signature as in a buffer. -/
import Derived.Test.YtodofpjdcongnaaDoorSignRd
namespace Go.Proofs.YtodofpjdcongnaaDoor.Sign
open Go.RowKit Go.Proofs.YtodofpjdcongnaaDoorW.PrintWords Go.Proofs.YtodofpjdcongnaaDoor.PFnSignHeaders

theorem St.C2 {w : World} {G N : Nat} {pre : List Int} (h : St w G N pre) (hm : pre.length ≤ 9223372036854775807) : Kd.C (Kd.int .u8) w (some ⟨G, 0, none⟩) pre.length pre := by
  refine ⟨rfl, hm, fun _ => ⟨_, rfl, fun j p hj => ⟨[.int .u8 p], rfl, rfl, fun i u hi => ?_⟩⟩⟩
  have hi0 : i = 0 := by
    cases i with
    | zero => rfl
    | succ i => cases hi
  subst hi0
  have hu : u = .int .u8 p := (Option.some.inj hi).symm
  subst hu
  rw [add_plain, blk_cell h.2, show j * (Kd.int IntKind.u8).sz + 0 = j from by rw [show (Kd.int IntKind.u8).sz = 1 from rfl]; omega]
  rw [List.getElem?_toArray]
  have hjl : j < pre.length := (List.getElem?_eq_some_iff.1 hj).1
  simp only [nums, List.getElem?_map, List.getElem?_append_left hjl, hj, Option.map_some]

theorem same_is2 (L : List Int) : spec_SameBytes.f L L = some true := by
  unfold spec_SameBytes.f
  rw [beq_self_eq_true]

theorem same_call2 (A0 : Option Addr) (c0 : Nat) (A1 : Option Addr) (c1 : Nat) (L : List Int) (k : Nat) (w : World) (hk : L.length = k) (h0 : Kd.C (Kd.int .u8) w A0 L.length L) (hc0 : k ≤ c0) (h1 : Kd.C (Kd.int .u8) w A1 L.length L) (hc1 : k ≤ c1) :
    Calls Tryd.prog 11 #[.slice A0 k c0, .slice A1 k c1] w fun e w' => e = .returned (.bool true) ∧ Drawn0 w w' := by
  subst hk
  exact spec_SameBytes.calls A0 c0 L A1 c1 L true w h0 hc0 h1 hc1 (same_is2 L)

set_option maxHeartbeats 8000000 in
set_option maxRecDepth 100000 in
theorem law_reader (n c : Nat) (A : Option Addr) (q Kt : List Int) (ae au : Addr) (id : ByteArray) (from_ long : Int) (main : Bool) (w : World) (hf : -9223372036854775808 ≤ from_ ∧ from_ ≤ 9223372036854775807) (hl : -9223372036854775808 ≤ long ∧ long ≤ 9223372036854775807)
    (hnm : n ≤ 9223372036854775807) (hidm : id.size ≤ 9223372036854775807) (hnc : n ≤ c) (hcm : c ≤ 9223372036854775807) (hr : ReadsInt w .u8 A n q) (hq8 : B8 q) (hK4 : Wd w 43 4 Kt) (hE : Er w ae au) :
    Calls Tryd.prog 6 #[.slice A n c, .string id, .int .i64 from_, .int .i64 long, .bool main] w fun e w' => e = .returned (.bool true) ∧ Below w.heap.size w w' := by
  have HF := Aside0.mk hf
  have HL := Aside0.mk hl
  have HR := Aside0.mk hr
  have HQ8 := Aside0.mk hq8
  have HK4 := Aside0.mk hK4
  have HE := Aside0.mk hE
  clear hf hl hr hq8 hK4 hE
  by_cases h1 : 2147483647 < n
  · have d1 : decide ((2147483647 : Int) < (n : Int)) = true := decide_eq_true (by omega)
    go_enter Tryd.func6, Tryd.ntmps6
    go_wp2
    go_ret
    exact ⟨rfl, Below.refl _ _⟩
  have d1 : decide ((2147483647 : Int) < (n : Int)) = false := decide_eq_false (by omega)
  by_cases h2 : 2147483647 < id.size
  · have d2 : decide ((2147483647 : Int) < (id.size : Int)) = true := decide_eq_true (by omega)
    go_enter Tryd.func6, Tryd.ntmps6
    go_wp2
    go_ret
    exact ⟨rfl, Below.refl _ _⟩
  have d2 : decide ((2147483647 : Int) < (id.size : Int)) = false := decide_eq_false (by omega)
  have hn : n ≤ 2147483647 := by omega
  have hid : id.size ≤ 2147483647 := by omega
  obtain ⟨N, hN⟩ : ∃ N, N = szN n id := ⟨_, rfl⟩
  have hNb : N ≤ 281474976710656 := by unfold szN at hN; omega
  have hN0 : 0 < N := by unfold szN at hN; omega
  have hN0i : (0 : Int) < (N : Int) := by omega
  obtain ⟨LL, hLL⟩ : ∃ LL, LL = hdr n id from_ long main ++ pagesF Kt q ((n + 4095) / 4096) := ⟨_, rfl⟩
  have hlen : LL.length = N := by rw [hLL, List.length_append, hdr_length, pagesF_length, hN, szN]; omega
  have HN := Aside0.mk hN
  have HLL := Aside0.mk hLL
  have HLEN := Aside0.mk hlen
  clear hN h1 h2 hLL hlen
  go_enter Tryd.func6, Tryd.ntmps6
  go_wp2_with fail
  (with_reducible refine (impl_sign_buf N n c A q Kt id from_ long main _ HN.out hn hid HF.out HL.out hnc hcm HR.out HQ8.out HK4.out).mono ?_)
  rintro e w1 ⟨G, hG, rfl, hs, hb⟩
  rw [← HLL.out] at hs
  have HB := Aside0.mk hb
  have HS := Aside0.mk hs
  have HK1 : Aside0 (Wd w1 43 4 Kt) := Aside0.mk ⟨HK4.out.len, (hb.block 4 (blk_lt HK4.out.blk)).trans HK4.out.blk⟩
  have HR1 := Aside0.mk (HR.out.below hb)
  have HE1 := Aside0.mk (HE.out.below hb)
  clear hs hb hG
  go_wp2_with fail
  (with_reducible refine (impl_sign_rd N n c A q Kt ae au id from_ long main _ HN.out hn hid HF.out HL.out hnc HR1.out HQ8.out HK1.out HE1.out).mono ?_)
  rintro e w2 ⟨G2, hG2, rfl, hs, hb⟩
  rw [← HLL.out] at hs
  have HB2 := Aside0.mk (below_step HB.out hb)
  have HS1 := Aside0.mk (HS.out.below hb)
  have HS2 := Aside0.mk hs
  clear hs hb hG2
  go_wp2_with fail
  (with_reducible refine (same_call2 _ N _ N LL N _ HLEN.out (HS1.out.C2 (by rw [HLEN.out]; omega)) (Nat.le_refl _) (HS2.out.C2 (by rw [HLEN.out]; omega)) (Nat.le_refl _)).mono ?_)
  rintro e w3 ⟨rfl, hd⟩
  have HB3 := Aside0.mk (below_step HB2.out hd.below)
  clear hd
  go_wp2
  go_ret
  exact ⟨rfl, HB3.out⟩
end Go.Proofs.YtodofpjdcongnaaDoor.Sign

/- FnSignLength: a signature is as long as Size tells. -/
import Derived.Test.YtodofpjdcongnaaDoorSignBuf
namespace Go.Proofs.YtodofpjdcongnaaDoor.Sign
open Go.RowKit Go.Proofs.YtodofpjdcongnaaDoorW.PrintWords Go.Proofs.YtodofpjdcongnaaDoor.PFnSignHeaders

theorem made_st2 (W W1 : World) (N G : Nat) (hG : W.heap.size = G) (hb : Below (G + 1) (W.alloc (.cells (madeCells #[.int .u8 0] N) 5)) W1) : St W1 G N [] := by
  refine ⟨Nat.zero_le _, ?_⟩
  rw [hb.block G (Nat.lt_succ_self G), ← hG, blk_new]
  congr 2
  apply Array.ext'
  apply List.ext_getElem
  · simp [madeCells, nums]
  · intro i h1 h2
    simp only [madeCells, nums, Array.toList_map, List.getElem_map, Nat.mod_one, List.size_toArray, List.length_singleton, List.nil_append, List.getElem_replicate]
    rfl

/-- a slice of bytes that is not empty lies somewhere -/
theorem reads_at {w : World} {A : Option Addr} {n : Nat} {q : List Int} (h : ReadsInt w .u8 A n q) (h0 : 0 < n) : ∃ b o, A = some ⟨b, o, none⟩ ∧ b < w.heap.size ∧ ∀ i, i < n → w.cell? ⟨b, o + i, none⟩ = some (.int .u8 (q.getD i 0)) := by
  obtain ⟨ad, rfl, hc⟩ := h.2.2 h0
  obtain ⟨b, o, sp⟩ := ad
  have h1 := hc 0 h0
  rw [Addr.add_zero'] at h1
  cases sp with
  | some s =>
    unfold World.cell? at h1
    split at h1 <;> simp at h1
  | none =>
    refine ⟨b, o, rfl, ?_, fun i hi => by rw [← hc i hi, Addr.add_lit]⟩
    unfold World.cell? at h1
    split at h1
    · rename_i hh
      exact (Array.getElem?_eq_some_iff.1 hh).1
    · cases h1

set_option maxHeartbeats 8000000 in
set_option maxRecDepth 100000 in
theorem zz_sign_buf (N n c : Nat) (A : Option Addr) (q Kt : List Int) (id : ByteArray) (from_ long : Int) (main : Bool) (w : World) (hN : N = szN n id) (hn : n ≤ 2147483647) (hid : id.size ≤ 2147483647) (hf : -9223372036854775808 ≤ from_ ∧ from_ ≤ 9223372036854775807) (hl : -9223372036854775808 ≤ long ∧ long ≤ 9223372036854775807)
    (hnc : n ≤ c) (hcm : c ≤ 9223372036854775807) (hr : ReadsInt w .u8 A n q) (hq8 : B8 q) (hK4 : Wd w 43 4 Kt) :
    Calls Tryd.prog 21 #[.slice A n c, .bool true, .string id, .int .i64 from_, .int .i64 long, .bool main] w fun e w' => ∃ G, w.heap.size ≤ G ∧ e = .returned (.slice (some ⟨G, 0, none⟩) N N) ∧ St w' G N (hdr n id from_ long main ++ pagesF Kt q ((n + 4095) / 4096)) ∧ Below w.heap.size w w' := by
  have hsz := size_is n id (by omega) hid
  rw [← hN] at hsz
  have hNb : N ≤ 281474976710656 := by unfold szN at hN; omega
  have hmk := print_make (P := Tryd.prog) 22 5 .u8 1 Tryd.underlying22 info5 (by decide) N (by omega)
  have HSZ := Aside0.mk hsz
  have HN := Aside0.mk hN
  have HF := Aside0.mk hf
  have HL := Aside0.mk hl
  have HR := Aside0.mk hr
  have HQ8 := Aside0.mk hq8
  have HK4 := Aside0.mk hK4
  clear hsz hN hf hl hr hq8 hK4
  go_enter Tryd.func21, Tryd.ntmps21
  go_wp2_with fail
  (with_reducible refine (codesign_Size.calls _ _ _ _ HSZ.out).mono ?_)
  rintro e w1 ⟨rfl, hd⟩
  have HD := Aside0.mk hd.below
  clear hd
  have hz1 : (w1.alloc (.cells (madeCells #[.int .u8 0] N) 5)).heap.size = w1.heap.size + 1 := by simp
  have HZ1 := Aside0.mk hz1
  clear hz1
  go_wp2_with fail
  (with_reducible refine (new_buffer A n c _).mono ?_)
  rintro e w2 ⟨bb, hbb, rfl, hbk, hb2⟩
  have HBB := Aside0.mk hbb
  have HBK := Aside0.mk hbk
  have HB2 := Aside0.mk hb2
  have hsG : St w2 w1.heap.size N [] := made_st2 w1 w2 N _ rfl (by rw [← HZ1.out]; exact hb2)
  have hbel : Below w.heap.size w w2 := (below_alloc HD.out _).trans (hb2.mono (by rw [HZ1.out]; exact Nat.le_succ_of_le HD.out.size))
  have hbG : bb = w1.heap.size + 1 := by rw [hbb, HZ1.out]
  have hws := HD.out.size
  obtain ⟨b, o, hA, hbl, hcl⟩ : ∃ b o, (0 < n → A = some ⟨b, o, none⟩) ∧ (0 < n → b < w.heap.size) ∧ ∀ i, i < n → w.cell? ⟨b, o + i, none⟩ = some (.int .u8 (q.getD i 0)) := by
    by_cases h0 : 0 < n
    · obtain ⟨b, o, h1, h2, h3⟩ := reads_at HR.out h0
      exact ⟨b, o, fun _ => h1, fun _ => h2, h3⟩
    · exact ⟨0, 0, fun h => absurd h h0, fun h => absurd h h0, fun i hi => absurd hi (by omega)⟩
  (have HC := Aside0.mk (sign_buf w1.heap.size N bb b o n c id from_ long main 0 q Kt w2 hsG HN.out hn hid HF.out HL.out hnc hcm (fun h0 => by rw [hA h0] at hbk; exact hbk) HR.out.1 HQ8.out (fun i hi => by rw [hbel.cell (p := ⟨b, o + i, none⟩) (hbl (by omega))]; exact hcl i hi) ⟨HK4.out.len, (hbel.block 4 (blk_lt HK4.out.blk)).trans HK4.out.blk⟩ (by omega) (fun h0 => by have := hbl h0; omega) (fun h0 => by have := hbl h0; omega) (by have := blk_lt HK4.out.blk; omega) (by have := blk_lt HK4.out.blk; omega) (fun h0 => Nat.lt_of_lt_of_le (hbl h0) hbel.size)))
  have HBEL := Aside0.mk hbel
  have HBG := Aside0.mk hbG
  clear hbb hbk hb2 hsG hbel hbG hws hA hbl hcl
  go_wp2_with fail
  (with_reducible refine HC.out.mono ?_)
  rintro e w3 ⟨rfl, hs, ht⟩
  have HS := Aside0.mk hs
  have HT := Aside0.mk ht
  clear hs ht HC
  go_wp2
  go_ret
  exact ⟨w1.heap.size, HD.out.size, rfl, HS.out, Two.new HBEL.out HT.out HD.out.size (by have := HBG.out; have := HD.out.size; omega)⟩

set_option maxHeartbeats 8000000 in
theorem impl_sign_buf (N n c : Nat) (A : Option Addr) (q Kt : List Int) (id : ByteArray) (from_ long : Int) (main : Bool) (w : World) (hN : N = szN n id) (hn : n ≤ 2147483647) (hid : id.size ≤ 2147483647) (hf : -9223372036854775808 ≤ from_ ∧ from_ ≤ 9223372036854775807) (hl : -9223372036854775808 ≤ long ∧ long ≤ 9223372036854775807)
    (hnc : n ≤ c) (hcm : c ≤ 9223372036854775807) (hr : ReadsInt w .u8 A n q) (hq8 : B8 q) (hK4 : Wd w 43 4 Kt) :
    Calls Tryd.prog 12 #[.slice A n c, .bool true, .string id, .int .i64 from_, .int .i64 long, .bool main] w fun e w' => ∃ G, w.heap.size ≤ G ∧ e = .returned (.slice (some ⟨G, 0, none⟩) N N) ∧ St w' G N (hdr n id from_ long main ++ pagesF Kt q ((n + 4095) / 4096)) ∧ Below w.heap.size w w' := by
  have HC := Aside0.mk (zz_sign_buf N n c A q Kt id from_ long main w hN hn hid hf hl hnc hcm hr hq8 hK4)
  clear hN hf hl hr hq8 hK4
  go_enter Tryd.func12, Tryd.ntmps12
  go_wp2_with fail
  (with_reducible refine HC.out.mono ?_)
  rintro e w1 ⟨G, hG, rfl, hs, hb⟩
  have HS := Aside0.mk hs
  have HB := Aside0.mk hb
  have HG := Aside0.mk hG
  clear hs hb hG HC
  go_wp2
  go_ret
  exact ⟨G, HG.out, rfl, HS.out, HB.out⟩

set_option maxHeartbeats 4000000 in
theorem sig_size (n N : Nat) (id : ByteArray) (w : World) (hN : N = szN n id) (hn : n ≤ 2147483647) (hid : id.size ≤ 2147483647) : Calls Tryd.prog 17 #[.int .i64 (n : Int), .string id] w fun e w' => e = .returned (.int .i64 (N : Int)) ∧ Below w.heap.size w w' := by
  have hsz := size_is n id (by omega) hid
  rw [← hN] at hsz
  have HSZ := Aside0.mk hsz
  clear hsz hN
  go_enter Tryd.func17, Tryd.ntmps17
  go_wp2_with fail
  (with_reducible refine (codesign_Size.calls _ _ _ _ HSZ.out).mono ?_)
  rintro e w1 ⟨rfl, hd⟩
  have HD := Aside0.mk hd.below
  clear hd
  go_wp2
  go_ret
  exact ⟨rfl, HD.out⟩

theorem sig_one (w : World) : Calls Tryd.prog 17 #[.int .i64 1, .string { data := #[] }] w fun e w' => e = .returned (.int .i64 141) ∧ Below w.heap.size w w' :=
  sig_size 1 141 ByteArray.empty w rfl (by decide) (by decide)

set_option maxHeartbeats 8000000 in
set_option maxRecDepth 100000 in
theorem law_length (n c : Nat) (A : Option Addr) (q Kt : List Int) (id : ByteArray) (from_ long : Int) (main : Bool) (w : World) (hf : -9223372036854775808 ≤ from_ ∧ from_ ≤ 9223372036854775807) (hl : -9223372036854775808 ≤ long ∧ long ≤ 9223372036854775807)
    (hnm : n ≤ 9223372036854775807) (hidm : id.size ≤ 9223372036854775807) (hnc : n ≤ c) (hcm : c ≤ 9223372036854775807) (hr : ReadsInt w .u8 A n q) (hq8 : B8 q) (hK4 : Wd w 43 4 Kt) :
    Calls Tryd.prog 7 #[.slice A n c, .string id, .int .i64 from_, .int .i64 long, .bool main] w fun e w' => e = .returned (.bool true) ∧ Below w.heap.size w w' := by
  have HF := Aside0.mk hf
  have HL := Aside0.mk hl
  have HR := Aside0.mk hr
  have HQ8 := Aside0.mk hq8
  have HK4 := Aside0.mk hK4
  clear hf hl hr hq8 hK4
  by_cases h1 : 2147483647 < n
  · have d1 : decide ((2147483647 : Int) < (n : Int)) = true := decide_eq_true (by omega)
    go_enter Tryd.func7, Tryd.ntmps7
    go_wp2
    go_ret
    exact ⟨rfl, Below.refl _ _⟩
  have d1 : decide ((2147483647 : Int) < (n : Int)) = false := decide_eq_false (by omega)
  by_cases h2 : 2147483647 < id.size
  · have d2 : decide ((2147483647 : Int) < (id.size : Int)) = true := decide_eq_true (by omega)
    go_enter Tryd.func7, Tryd.ntmps7
    go_wp2
    go_ret
    exact ⟨rfl, Below.refl _ _⟩
  have d2 : decide ((2147483647 : Int) < (id.size : Int)) = false := decide_eq_false (by omega)
  have hn : n ≤ 2147483647 := by omega
  have hid : id.size ≤ 2147483647 := by omega
  obtain ⟨N, hN⟩ : ∃ N, N = szN n id := ⟨_, rfl⟩
  have hNb : N ≤ 281474976710656 := by unfold szN at hN; omega
  have HN := Aside0.mk hN
  clear hN h1 h2
  go_enter Tryd.func7, Tryd.ntmps7
  go_wp2_with fail
  (with_reducible refine (impl_sign_buf N n c A q Kt id from_ long main _ HN.out hn hid HF.out HL.out hnc hcm HR.out HQ8.out HK4.out).mono ?_)
  rintro e w1 ⟨G, hG, rfl, hs, hb⟩
  have HB := Aside0.mk hb
  clear hs hb hG
  go_wp2_with fail
  (with_reducible refine (sig_size n N id _ HN.out hn hid).mono ?_)
  rintro e w2 ⟨rfl, hb⟩
  have HB2 := Aside0.mk (below_step HB.out hb)
  clear hb
  have hne : ((N : Int) == (N : Int)) = true := by simp
  go_wp2_with fail
  (with_reducible refine (sig_one _).mono ?_)
  rintro e w3 ⟨rfl, hb⟩
  have HB3 := Aside0.mk (below_step HB2.out hb)
  clear hb
  go_wp2
  go_ret
  exact ⟨rfl, HB3.out⟩
end Go.Proofs.YtodofpjdcongnaaDoor.Sign

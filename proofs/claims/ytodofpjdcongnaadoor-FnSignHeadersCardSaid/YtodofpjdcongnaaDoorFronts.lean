/- spec.Fronts: the headers as the law's own specification lays them. -/
import Derived.Test.YtodofpjdcongnaaDoorAcc
import Derived.LoopN
namespace Go.Proofs.YtodofpjdcongnaaDoor.Sign
open Go.RowKit Go.Proofs.YtodofpjdcongnaaDoorW.PrintWords Go.Proofs.YtodofpjdcongnaaDoor.PFnSignHeaders

set_option linter.unusedSimpArgs false
set_option linter.unusedVariables false
theorem spec_pages_is (n : Nat) (hn : n ≤ 1048576) : spec_Pages.f (n : Int) = some (((n + 4095) / 4096 : Nat) : Int) := by
  unfold spec_Pages.f
  have e0 : wrap64 (wrap64 ((n : Int) + 4096) - 1) = (n : Int) + 4095 := by unfold wrap64; omega
  have e1 : Int.tdiv ((n : Int) + 4095) 4096 = ((n + 4095) / 4096 : Nat) := by
    rw [Int.tdiv_eq_ediv_of_nonneg (by omega)]; omega
  rw [e0, e1]
  congr 1
  unfold wrap64
  omega
theorem spec_size_is (n : Nat) (id : ByteArray) (hn : n ≤ 1048576) (hid : id.size ≤ 2147483647) : spec_Size.f (n : Int) id = some ((109 + id.size + (n + 4095) / 4096 * 32 : Nat) : Int) := by
  unfold spec_Size.f
  rw [spec_pages_is n hn]
  show some _ = some _
  congr 1
  obtain ⟨k, hk⟩ : ∃ k, k = (n + 4095) / 4096 := ⟨_, rfl⟩
  have hk2 : k ≤ 256 := by omega
  rw [← hk]
  clear hk
  unfold wrap64
  omega

theorem mod_small (x : Int) (h : 0 ≤ x ∧ x < 4294967296) : x % 4294967296 = x := by omega
theorem mod_ok (x : Int) : 0 ≤ x % 4294967296 ∧ x % 4294967296 < 4294967296 := by omega
theorem len_lt {xs ys : List Int} {a b : Nat} (h1 : xs.length = a) (h2 : ys.length = b) (h : a + b ≤ 140737488355328) : xs.length + ys.length ≤ 140737488355328 := by omega

/-- the words of a code directory's head -/
def nine (n sz pg : Nat) (id : ByteArray) : List Int := [4208856066, (sz : Int) - 20, 132096, 131074, 88 + ((id.size : Int) + 1), 88, 0, (pg : Int), (n : Int)]
def flat (ws : List Int) : List Int := ws.flatMap be32
theorem flat_len (ws : List Int) : (flat ws).length = 4 * ws.length := by
  induction ws with
  | nil => rfl
  | cons x t ih =>
    show (be32 x ++ flat t).length = _
    rw [List.length_append, be32_len, ih, List.length_cons]
    omega
theorem flat_take (ws : List Int) (k : Nat) (hk : k < ws.length) : flat (ws.take (k + 1)) = flat (ws.take k) ++ be32 (ws.getD k 0) := by
  have e : ws.take (k + 1) = ws.take k ++ [ws.getD k 0] := by
    rw [List.take_add_one, List.getElem?_eq_getElem hk]
    simp [List.getD, List.getElem?_eq_getElem hk]
  rw [e]
  simp [flat]
theorem nine_len (n sz pg : Nat) (id : ByteArray) : (nine n sz pg id).length = 9 := rfl
theorem nine_ok (n sz pg : Nat) (id : ByteArray) (hn : n ≤ 1048576) (hid : id.size ≤ 2147483647) (hpg2 : pg ≤ 256) (hsz2 : 109 + id.size ≤ sz ∧ sz ≤ 109 + id.size + 8192) (k : Nat) (hk : k < 9) : 0 ≤ (nine n sz pg id).getD k 0 ∧ (nine n sz pg id).getD k 0 < 4294967296 := by
  have h9 : k = 0 ∨ k = 1 ∨ k = 2 ∨ k = 3 ∨ k = 4 ∨ k = 5 ∨ k = 6 ∨ k = 7 ∨ k = 8 := by omega
  rcases h9 with rfl | rfl | rfl | rfl | rfl | rfl | rfl | rfl | rfl <;> simp only [nine, List.getD_cons_zero, List.getD_cons_succ] <;> omega
theorem nine_cell (n sz pg : Nat) (id : ByteArray) {W : World} {T : Nat} (h : W.heap[T]? = some (.cells (nums .u32 (nine n sz pg id)).toArray 34 (0, 0))) (k : Nat) (hk : k < 9) : W.cell? ⟨T, k, none⟩ = some (.int .u32 ((nine n sz pg id).getD k 0)) := by
  rw [blk_cell h]
  have h9 : k = 0 ∨ k = 1 ∨ k = 2 ∨ k = 3 ∨ k = 4 ∨ k = 5 ∨ k = 6 ∨ k = 7 ∨ k = 8 := by omega
  rcases h9 with rfl | rfl | rfl | rfl | rfl | rfl | rfl | rfl | rfl <;> rfl

set_option maxHeartbeats 8000000 in
set_option maxRecDepth 100000 in
theorem fronts (n : Nat) (id : ByteArray) (from_ long : Int) (main : Bool) (w : World) (hn : n ≤ 1048576) (hid : id.size ≤ 2147483647) (sz pg : Nat) (hsz : sz = 109 + id.size + (n + 4095) / 4096 * 32) (hpg : pg = (n + 4095) / 4096) :
    Calls Tryd.prog 9 #[.string id, .int .i64 (n : Int), .int .i64 from_, .int .i64 long, .bool main] w fun e w' => ∃ v, e = .returned v ∧ Acc w w' v (be32 4208856256 ++ be32 (sz : Int) ++ be32 1 ++ be32 0 ++ be32 20 ++ flat (nine n sz pg id) ++ [32, 2, 0, 12] ++ be32 0 ++ be32 0 ++ be32 0 ++ be32 0 ++ be64 0 ++ be64 (IntKind.u64.wrap from_) ++ be64 (IntKind.u64.wrap long) ++ be64 (if main then 1 else 0) ++ bytesOf id ++ [0]) := by
  have HPG : Aside0 (spec_Pages.f (n : Int) = some (pg : Int)) := Aside0.mk (by rw [spec_pages_is n hn, hpg])
  have HSZ : Aside0 (spec_Size.f (n : Int) id = some (sz : Int)) := Aside0.mk (by rw [spec_size_is n id hn hid, hsz])
  have hpg2 : pg ≤ 256 := by omega
  have hsz2 : 109 + id.size ≤ sz ∧ sz ≤ 109 + id.size + 8192 := by omega
  clear hsz hpg
  go_enter Tryd.func9, Tryd.ntmps9
  go_wp2_with fail
  (with_reducible refine (spec_Pages.calls _ _ _ HPG.out).mono ?_)
  rintro e w1 ⟨rfl, hd⟩
  have HB1 := Aside0.mk hd.below
  clear hd
  go_wp2_with fail
  (with_reducible refine (words_first _ (by decide) HB1.out).mono ?_)
  rintro e w2 ⟨v2, rfl, ha, hk⟩
  have HA2 := Aside0.mk ha
  clear ha hk
  go_wp2_with fail
  (with_reducible refine (spec_Size.calls _ _ _ _ HSZ.out).mono ?_)
  rintro e w3 ⟨rfl, hd⟩
  have HA3 := Aside0.mk (HA2.out.step hd.below)
  clear hd
  go_wp2_with fail
  (with_reducible refine (words_next _ (by omega) HA3.out).mono ?_)
  rintro e w4 ⟨v4, rfl, hp, hk⟩
  have HP4 := Aside0.mk hp
  clear hp hk
  go_wp2_with ((with_reducible refine gate_builtin (b := .append) rfl ?_); at_builtin; refine append_pair rfl _ _ rfl _ _ _ _ rfl rfl HP4.out ?aL ?_; (case aL => (simp only [List.length_append, be32_len, be64_len, List.length_cons, List.length_nil]; omega)); intro v5 w5 ha hk; have HA5 := Aside0.mk ha; clear ha hk)
  (with_reducible refine (words_next _ (by decide) HA5.out).mono ?_)
  rintro e w6 ⟨v6, rfl, hp, hk⟩
  have HP6 := Aside0.mk hp
  clear hp hk
  go_wp2_with ((with_reducible refine gate_builtin (b := .append) rfl ?_); at_builtin; refine append_pair rfl _ _ rfl _ _ _ _ rfl rfl HP6.out ?aL ?_; (case aL => (simp only [List.length_append, be32_len, be64_len, List.length_cons, List.length_nil]; omega)); intro v7 w7 ha hk; have HA7 := Aside0.mk ha; clear ha hk)
  (with_reducible refine (words_next _ (by decide) HA7.out).mono ?_)
  rintro e w8 ⟨v8, rfl, hp, hk⟩
  have HP8 := Aside0.mk hp
  clear hp hk
  go_wp2_with ((with_reducible refine gate_builtin (b := .append) rfl ?_); at_builtin; refine append_pair rfl _ _ rfl _ _ _ _ rfl rfl HP8.out ?aL ?_; (case aL => (simp only [List.length_append, be32_len, be64_len, List.length_cons, List.length_nil]; omega)); intro v9 w9 ha hk; have HA9 := Aside0.mk ha; clear ha hk)
  (with_reducible refine (words_next _ (by decide) HA9.out).mono ?_)
  rintro e w10 ⟨v10, rfl, hp, hk⟩
  have HP10 := Aside0.mk hp
  clear hp hk
  go_wp2_with ((with_reducible refine gate_builtin (b := .append) rfl ?_); at_builtin; refine append_pair rfl _ _ rfl _ _ _ _ rfl rfl HP10.out ?aL ?_; (case aL => (simp only [List.length_append, be32_len, be64_len, List.length_cons, List.length_nil]; omega)); intro v11 w11 ha hk; have HA11 := Aside0.mk ha; clear ha hk)
  (with_reducible refine (spec_Size.calls _ _ _ _ HSZ.out).mono ?_)
  rintro e w12 ⟨rfl, hd⟩
  have HA12 := Aside0.mk (HA11.out.step hd.below)
  clear hd
  clear HB1 HA2 HA3 HP4 HA5 HP6 HA7 HP8 HA9 HP10 HA11
  go_wp2_with fail
  obtain ⟨T, hT⟩ : ∃ T, T = w12.heap.size := ⟨_, rfl⟩
  obtain ⟨we, hwe⟩ : ∃ we, we = w12.alloc (.cells #[.int .u32 4208856066, .int .u32 ((sz : Int) - 20), .int .u32 132096, .int .u32 131074, .int .u32 (88 + ((id.size : Int) + 1)), .int .u32 88, .int .u32 0, .int .u32 (pg : Int), .int .u32 (n : Int)] 34) := ⟨_, rfl⟩
  have ht : we.heap[T]? = some (.cells (nums .u32 (nine n sz pg id)).toArray 34 (0, 0)) := by rw [hwe, hT]; exact blk_new _ _
  have ha : Acc w we v11 (be32 4208856256 ++ be32 (sz : Int) ++ be32 1 ++ be32 0 ++ be32 20) := by rw [hwe]; exact HA12.out.step (below_alloc (Below.refl _ _) _)
  rw [← hwe, ← hT]
  have HT := Aside0.mk ht
  have HA := Aside0.mk ha
  clear ht ha HA12 hwe hT
  go_loopw [13, 15, 51] (fun v13 v15 v51 wr => ∃ k : Nat, v51 = .int .i64 k ∧ k ≤ 9 ∧ Acc w wr v13 (be32 4208856256 ++ be32 (sz : Int) ++ be32 1 ++ be32 0 ++ be32 20 ++ flat ((nine n sz pg id).take k)) ∧ Keeps we wr) (fun _ _ v51 _ => 9 - (intOf v51).toNat)
  case atStart => exact ⟨0, rfl, by omega, by rw [List.take_zero, show flat [] = [] from rfl, List.append_nil]; exact HA.out, Keeps.refl _⟩
  case round =>
    obtain ⟨k, rfl, hk, hA, hK⟩ := hrel
    have HAr := Aside0.mk hA
    have HKr := Aside0.mk hK
    clear hA hK
    by_cases hk0 : k < 9
    · have d0 : decide ((k : Int) < 9) = true := decide_eq_true (by omega)
      have hc0 := nine_cell n sz pg id (HKr.out _ _ _ (by decide) HT.out) k hk0
      have hok := nine_ok n sz pg id hn hid hpg2 hsz2 k hk0
      have hft := flat_take (nine n sz pg id) k (by rw [nine_len]; exact hk0)
      obtain ⟨x, hx⟩ : ∃ x, x = (nine n sz pg id).getD k 0 := ⟨_, rfl⟩
      rw [← hx] at hc0 hok hft
      have HFT := Aside0.mk hft
      have HOK := Aside0.mk hok
      clear hok hft hx
      go_wp2_with fail
      (with_reducible refine (words_next _ HOK.out HAr.out).mono ?_)
      rintro e wa ⟨va, rfl, hp, hk⟩
      have HPa := Aside0.mk hp
      have HKa := Aside0.mk (HKr.out.trans hk)
      clear hp hk
      go_wp2_with ((with_reducible refine gate_builtin (b := .append) rfl ?_); at_builtin; refine append_pair rfl _ _ rfl _ _ _ _ rfl rfl HPa.out ?aL ?_; (case aL => (simp only [List.length_append, be32_len, flat_len, List.length_take, nine_len]; omega)); intro vb wb ha hk; have HAb := Aside0.mk ha; have HKb := Aside0.mk (HKa.out.trans hk); clear ha hk)
      go_roundw
      case rel => exact ⟨k + 1, by go_num, by omega, by rw [HFT.out, ← List.append_assoc]; exact HAb.out, HKb.out⟩
      case measure => simp [intOf]; omega
    · obtain rfl : k = 9 := by omega
      have hz : decide (((9 : Nat) : Int) < 9) = false := rfl
      have ha := HAr.out
      rw [show (nine n sz pg id).take 9 = nine n sz pg id from rfl] at ha
      have HA := Aside0.mk ha
      clear ha HAr hz hk0
      go_wp2_with (first | ((with_reducible refine gate_dst (N := 61) rfl ?_); refine lit_pair rfl (N := 61) rfl _ _ [32, 2, 0, 12] HA.out ?hr (by decide) ?_; (case hr => first | (go_simp; done) | (go_simp; rfl)); intro v20 w20 hp hk; have HP20 := Aside0.mk hp; clear hp hk HA) | ((with_reducible refine gate_builtin (b := .append) rfl ?_); at_builtin; refine append_pair rfl _ _ rfl _ _ _ _ rfl rfl HP20.out ?aL ?_; (case aL => (simp only [List.length_append, be32_len, be64_len, flat_len, nine_len, List.length_cons, List.length_nil]; omega)); intro v21 w21 ha hk; have HA21 := Aside0.mk ha; clear ha hk HP20))
      refine wp_loop_rounds 5 ?_
      rw [rounds_succ]
      go_wp2_with fail
      (with_reducible refine (words_next _ (by decide) HA21.out).mono ?_)
      rintro e w22 ⟨v22, rfl, hp, hk⟩
      have HP22 := Aside0.mk hp
      clear hp hk HA21
      go_wp2_with ((with_reducible refine gate_builtin (b := .append) rfl ?_); at_builtin; refine append_pair rfl _ _ rfl _ _ _ _ rfl rfl HP22.out ?aL ?_; (case aL => (simp only [List.length_append, be32_len, be64_len, flat_len, nine_len, List.length_cons, List.length_nil]; omega)); intro v23 w23 ha hk; have HA23 := Aside0.mk ha; clear ha hk HP22)
      rw [rounds_succ]
      go_wp2_with fail
      (with_reducible refine (words_next _ (by decide) HA23.out).mono ?_)
      rintro e w24 ⟨v24, rfl, hp, hk⟩
      have HP24 := Aside0.mk hp
      clear hp hk HA23
      go_wp2_with ((with_reducible refine gate_builtin (b := .append) rfl ?_); at_builtin; refine append_pair rfl _ _ rfl _ _ _ _ rfl rfl HP24.out ?aL ?_; (case aL => (simp only [List.length_append, be32_len, be64_len, flat_len, nine_len, List.length_cons, List.length_nil]; omega)); intro v25 w25 ha hk; have HA25 := Aside0.mk ha; clear ha hk HP24)
      rw [rounds_succ]
      go_wp2_with fail
      (with_reducible refine (words_next _ (by decide) HA25.out).mono ?_)
      rintro e w26 ⟨v26, rfl, hp, hk⟩
      have HP26 := Aside0.mk hp
      clear hp hk HA25
      go_wp2_with ((with_reducible refine gate_builtin (b := .append) rfl ?_); at_builtin; refine append_pair rfl _ _ rfl _ _ _ _ rfl rfl HP26.out ?aL ?_; (case aL => (simp only [List.length_append, be32_len, be64_len, flat_len, nine_len, List.length_cons, List.length_nil]; omega)); intro v27 w27 ha hk; have HA27 := Aside0.mk ha; clear ha hk HP26)
      rw [rounds_succ]
      go_wp2_with fail
      (with_reducible refine (words_next _ (by decide) HA27.out).mono ?_)
      rintro e w28 ⟨v28, rfl, hp, hk⟩
      have HP28 := Aside0.mk hp
      clear hp hk HA27
      go_wp2_with ((with_reducible refine gate_builtin (b := .append) rfl ?_); at_builtin; refine append_pair rfl _ _ rfl _ _ _ _ rfl rfl HP28.out ?aL ?_; (case aL => (simp only [List.length_append, be32_len, be64_len, flat_len, nine_len, List.length_cons, List.length_nil]; omega)); intro v29 w29 ha hk; have HA29 := Aside0.mk ha; clear ha hk HP28)
      rw [rounds_succ]
      cases main
      case false =>
        go_wp2_with fail
        (with_reducible refine (wide_next _ HA29.out).mono ?_)
        rintro e w30 ⟨v30, rfl, hp, hk⟩
        have HP30 := Aside0.mk hp
        clear hp hk HA29
        go_wp2_with ((with_reducible refine gate_builtin (b := .append) rfl ?_); at_builtin; refine append_pair rfl _ _ rfl _ _ _ _ rfl rfl HP30.out ?aL ?_; (case aL => (simp only [List.length_append, be32_len, be64_len, flat_len, nine_len, List.length_cons, List.length_nil]; omega)); intro v31 w31 ha hk; have HA31 := Aside0.mk ha; clear ha hk HP30)
        (with_reducible refine (wide_next _ HA31.out).mono ?_)
        rintro e w32 ⟨v32, rfl, hp, hk⟩
        have HP32 := Aside0.mk hp
        clear hp hk HA31
        go_wp2_with ((with_reducible refine gate_builtin (b := .append) rfl ?_); at_builtin; refine append_pair rfl _ _ rfl _ _ _ _ rfl rfl HP32.out ?aL ?_; (case aL => (simp only [List.length_append, be32_len, be64_len, flat_len, nine_len, List.length_cons, List.length_nil]; omega)); intro v33 w33 ha hk; have HA33 := Aside0.mk ha; clear ha hk HP32)
        (with_reducible refine (wide_next _ HA33.out).mono ?_)
        rintro e w34 ⟨v34, rfl, hp, hk⟩
        have HP34 := Aside0.mk hp
        clear hp hk HA33
        go_wp2_with ((with_reducible refine gate_builtin (b := .append) rfl ?_); at_builtin; refine append_pair rfl _ _ rfl _ _ _ _ rfl rfl HP34.out ?aL ?_; (case aL => (simp only [List.length_append, be32_len, be64_len, flat_len, nine_len, List.length_cons, List.length_nil]; omega)); intro v35 w35 ha hk; have HA35 := Aside0.mk ha; clear ha hk HP34)
        (with_reducible refine (wide_next _ HA35.out).mono ?_)
        rintro e w36 ⟨v36, rfl, hp, hk⟩
        have HP36 := Aside0.mk hp
        clear hp hk HA35
        go_wp2_with (first | ((with_reducible refine gate_dst (N := 88) rfl ?_); refine lit_pair rfl (N := 88) rfl _ _ [0] HA38.out ?hr (by decide) ?_; (case hr => first | (go_simp; done) | (go_simp; rfl)); intro v39 w39 hp hk; have HP39 := Aside0.mk hp; clear hp hk HA38) | ((with_reducible refine gate_builtin (b := .append) rfl ?_); at_builtin; refine append_string rfl _ _ rfl _ _ id rfl rfl HA37.out ?aL ?_; (case aL => (simp only [List.length_append, be32_len, be64_len, flat_len, nine_len, List.length_cons, List.length_nil]; omega)); intro v38 w38 ha hk; have HA38 := Aside0.mk ha; clear ha hk HA37) | ((with_reducible refine gate_builtin (b := .append) rfl ?_); at_builtin; refine append_pair rfl _ _ rfl _ _ _ _ rfl rfl HP39.out ?aL ?_; (case aL => (simp only [List.length_append, be32_len, be64_len, bytesOf_length, flat_len, nine_len, List.length_cons, List.length_nil]; omega)); intro v40 w40 ha hk; have HA40 := Aside0.mk ha; clear ha hk HP39) | ((with_reducible refine gate_builtin (b := .append) rfl ?_); at_builtin; refine append_pair rfl _ _ rfl _ _ _ _ rfl rfl HP36.out ?aL ?_; (case aL => (simp only [List.length_append, be32_len, be64_len, flat_len, nine_len, List.length_cons, List.length_nil]; omega)); intro v37 w37 ha hk; have HA37 := Aside0.mk ha; clear ha hk HP36))
        go_ret
        exact ⟨_, rfl, HA40.out⟩
      case true =>
        go_wp2_with fail
        (with_reducible refine (wide_next _ HA29.out).mono ?_)
        rintro e w30 ⟨v30, rfl, hp, hk⟩
        have HP30 := Aside0.mk hp
        clear hp hk HA29
        go_wp2_with ((with_reducible refine gate_builtin (b := .append) rfl ?_); at_builtin; refine append_pair rfl _ _ rfl _ _ _ _ rfl rfl HP30.out ?aL ?_; (case aL => (simp only [List.length_append, be32_len, be64_len, flat_len, nine_len, List.length_cons, List.length_nil]; omega)); intro v31 w31 ha hk; have HA31 := Aside0.mk ha; clear ha hk HP30)
        (with_reducible refine (wide_next _ HA31.out).mono ?_)
        rintro e w32 ⟨v32, rfl, hp, hk⟩
        have HP32 := Aside0.mk hp
        clear hp hk HA31
        go_wp2_with ((with_reducible refine gate_builtin (b := .append) rfl ?_); at_builtin; refine append_pair rfl _ _ rfl _ _ _ _ rfl rfl HP32.out ?aL ?_; (case aL => (simp only [List.length_append, be32_len, be64_len, flat_len, nine_len, List.length_cons, List.length_nil]; omega)); intro v33 w33 ha hk; have HA33 := Aside0.mk ha; clear ha hk HP32)
        (with_reducible refine (wide_next _ HA33.out).mono ?_)
        rintro e w34 ⟨v34, rfl, hp, hk⟩
        have HP34 := Aside0.mk hp
        clear hp hk HA33
        go_wp2_with ((with_reducible refine gate_builtin (b := .append) rfl ?_); at_builtin; refine append_pair rfl _ _ rfl _ _ _ _ rfl rfl HP34.out ?aL ?_; (case aL => (simp only [List.length_append, be32_len, be64_len, flat_len, nine_len, List.length_cons, List.length_nil]; omega)); intro v35 w35 ha hk; have HA35 := Aside0.mk ha; clear ha hk HP34)
        (with_reducible refine (wide_next _ HA35.out).mono ?_)
        rintro e w36 ⟨v36, rfl, hp, hk⟩
        have HP36 := Aside0.mk hp
        clear hp hk HA35
        go_wp2_with (first | ((with_reducible refine gate_dst (N := 88) rfl ?_); refine lit_pair rfl (N := 88) rfl _ _ [0] HA38.out ?hr (by decide) ?_; (case hr => first | (go_simp; done) | (go_simp; rfl)); intro v39 w39 hp hk; have HP39 := Aside0.mk hp; clear hp hk HA38) | ((with_reducible refine gate_builtin (b := .append) rfl ?_); at_builtin; refine append_string rfl _ _ rfl _ _ id rfl rfl HA37.out ?aL ?_; (case aL => (simp only [List.length_append, be32_len, be64_len, flat_len, nine_len, List.length_cons, List.length_nil]; omega)); intro v38 w38 ha hk; have HA38 := Aside0.mk ha; clear ha hk HA37) | ((with_reducible refine gate_builtin (b := .append) rfl ?_); at_builtin; refine append_pair rfl _ _ rfl _ _ _ _ rfl rfl HP39.out ?aL ?_; (case aL => (simp only [List.length_append, be32_len, be64_len, bytesOf_length, flat_len, nine_len, List.length_cons, List.length_nil]; omega)); intro v40 w40 ha hk; have HA40 := Aside0.mk ha; clear ha hk HP39) | ((with_reducible refine gate_builtin (b := .append) rfl ?_); at_builtin; refine append_pair rfl _ _ rfl _ _ _ _ rfl rfl HP36.out ?aL ?_; (case aL => (simp only [List.length_append, be32_len, be64_len, flat_len, nine_len, List.length_cons, List.length_nil]; omega)); intro v37 w37 ha hk; have HA37 := Aside0.mk ha; clear ha hk HP36))
        go_ret
        exact ⟨_, rfl, HA40.out⟩
end Go.Proofs.YtodofpjdcongnaaDoor.Sign

/- (*Digest).Sum into an array with room. -/
import Derived.Test.YtodofpjdcongnaaDoorChk
import Derived.ArgAppend
namespace Go.Proofs.YtodofpjdcongnaaDoor.Sign
open Go.RowKit Go.Proofs.YtodofpjdcongnaaDoorW.PrintWords

theorem append32 {ops : Array Oper} {rest : List Oper} {o : Oper} {a : Act} {Q : Exit → Act → World → Prop} {W : World} (hgd : o.guard = none) (x y : Operand) (ho : o.op = .call { callee := .builtin .append, args := #[x, y], argTypes := #[22, 22] })
    (S H : Nat) (cur cs : Array Value) (hx : a.eval x = .slice (some ⟨S, 0, none⟩) 0 32) (hy : a.eval y = .slice (some ⟨H, 0, none⟩) 32 32) (hS : W.heap[S]? = some (.cells cur 74 (0, 0))) (hcur : cur.size = 32) (hH : W.heap[H]? = some (.cells cs 74 (0, 0))) (hcs : cs.size = 32) (h1 : ∀ q ∈ cs.toList, q.oneCell' = true)
    (h : ∀ w1, w1.heap[S]? = some (.cells cs 74 (0, 0)) → W.grownBy w1 (some S) → wpList Tryd.prog ops Q rest (a.put o.dst (.slice (some ⟨S, 0, none⟩) 32 32)) w1) : wpList Tryd.prog ops Q (o :: rest) a W := by
  refine wpList_plain hgd fun K hK => ?_
  cases hi : Tryd.prog.info? 5 with
  | none => have := info5s; rw [hi] at this; cases this
  | some i =>
    have hsz : i.size = 1 := by have := info5s; rw [hi] at this; exact Option.some.inj this
    have hl : cs.toList.length = 32 := by rw [Array.length_toList]; exact hcs
    have hc : ∀ j, j < 32 → W.cell? ⟨S, j, none⟩ = some (cur.getD j undef) := fun j hj => by
      rw [blk_cell hS]
      simp [hcur, hj]
    have hr := run_append_room_cells (P := Tryd.prog) W 22 o.type 5 i Tryd.underlying22 hi S 0 0 32 ⟨H, 0, none⟩ 32 32 cs.toList (by rw [hl, hsz]) (fun j u hu => by
      rw [Addr.add_lit, Nat.zero_add, blk_cell hH]
      simpa using hu) h1 (by decide) (fun j hj => by rw [hl] at hj; simp only [Nat.zero_mul, Nat.zero_add]; rw [hc j hj]; rfl) (fun j hj => by simp only [Nat.zero_mul, Nat.zero_add]; exact blk_frozen hS j)
    simp only [Nat.zero_mul, Nat.zero_add] at hr
    obtain ⟨cur', h3, h4, h5⟩ := setCells_row cs.toList 0 W cur hS (by omega)
    have e6 : cur' = cs := by
      apply Array.ext'
      rw [h5, List.drop_eq_nil_of_le (by rw [Array.length_toList]; omega)]
      simp
    unfold Oper.wp execOp
    simp only [ho, resolve, invoke, builtin, Sem.run_bind, Sem.run_pure, Result.andThen_ok, List.map_toArray, List.map_cons, List.map_nil, hx, hy, hr]
    exact hK _ _ (h _ (by rw [h3, e6]) (grown_cells W S 0 cs.toList))

theorem info99 : (Tryd.prog.info? 99).map (·.size) = some 75 := by kernel_rfl

set_option maxHeartbeats 16000000 in
set_option maxRecDepth 100000 in
theorem sum84 (D S k n : Nat) (hs xs K : List Int) (w : World) (hD : Dg w D hs xs k n) (hS : Row8 74 w S 32 []) (hK : Wd w 43 4 K) (hkn : k = n % 64) (hn : n ≤ 4096) (hx8 : B8 xs) (hw : W32 hs) :
    Calls Tryd.prog 84 #[.pointer (some ⟨D, 0, none⟩), .slice (some ⟨S, 0, none⟩) 0 32] w fun e w' => e = .returned (.slice (some ⟨S, 0, none⟩) 32 32) ∧ w'.heap[S]? = some (.cells (nums .u8 (outF (sumF K hs xs k (padF (padT k) ((n : Int) * 8))))).toArray 74 (0, 0)) ∧ w.grownBy w' (some S) := by
  obtain ⟨L, hL⟩ : ∃ L, L = outF (sumF K hs xs k (padF (padT k) ((n : Int) * 8))) := ⟨_, rfl⟩
  have hLl : (nums .u8 L).toArray.size = 32 := by rw [hL, List.size_toArray, nums_len, outF_length]
  obtain ⟨cs, hcs⟩ : ∃ cs : Array Value, cs = (nums .u8 L).toArray := ⟨_, rfl⟩
  have h1c : ∀ q ∈ cs.toList, q.oneCell' = true := by rw [hcs]; exact one_nums _
  rw [← hcs] at hLl
  rw [← hL, ← hcs]
  obtain ⟨ds, hds⟩ : ∃ ds : Array Value, ds = (dig hs xs k n).toArray := ⟨_, rfl⟩
  have hdl : ds.size = 75 := by rw [hds]; exact hD.size75
  have hdb : w.heap[D]? = some (.cells ds 99 (0, 0)) := by rw [hds]; exact hD.blk
  have hd1 : ∀ q ∈ ds.toList, q.oneCell' = true := by
    rw [hds]
    intro q hq
    simp only [dig, nums, List.mem_append, List.mem_map, List.mem_cons, List.not_mem_nil, or_false] at hq
    rcases hq with ⟨_, _, rfl⟩ | ⟨_, _, rfl⟩ | rfl | rfl | rfl <;> rfl
  have hi99 : (Tryd.prog.info? 99).map (·.size) = some ds.size := by rw [hdl]; exact info99
  have hi74 : (Tryd.prog.info? 74).map (·.size) = some cs.size := by rw [hLl]; exact info74
  have HD := Aside0.mk hD
  have HS := Aside0.mk hS
  have HK := Aside0.mk hK
  have HKN := Aside0.mk hkn
  have HX8 := Aside0.mk hx8
  have HW := Aside0.mk hw
  have HL := Aside0.mk hL
  have HCS := Aside0.mk hcs
  have HLL := Aside0.mk hLl
  have H1C := Aside0.mk h1c
  have HDS := Aside0.mk hds
  have HDL := Aside0.mk hdl
  have HDB := Aside0.mk hdb
  have HD1 := Aside0.mk hd1
  have HI99 := Aside0.mk hi99
  have HI74 := Aside0.mk hi74
  clear hD hS hK hkn hx8 hw hL hcs hLl h1c hds hdl hdb hd1 hi99 hi74
  go_enter Tryd.func84, Tryd.ntmps84
  go_wp2_with fail
  (with_reducible refine (approved _).mono ?_)
  rintro e w1 ⟨rfl, rfl⟩
  go_wp2_with (first
    | ((with_reducible refine gate_dst (N := 10) rfl ?_); refine wpList_load_row rfl 99 (.tmp 9) rfl D rfl 99 ds (0, 0) _ HDB.out Tryd.underlying99 rfl HI99.out ?_)
    | ((with_reducible refine gate_dst (N := 5) rfl ?_); refine alloc_known rfl 5 rfl 99 rfl _ zero99 ?_; intro E hE w2 hb2 hB2; have HE := Aside0.mk hE; have HE2 := Aside0.mk hb2; have HB2 := Aside0.mk hB2; clear hE hb2 hB2)
    | ((with_reducible refine gate_store (t := 99) (p := 5) rfl ?_); refine stop_here ?_))
  unfold Stopped
  refine store_all rfl rfl 99 (.tmp 5) (.tmp 10) rfl E _ 99 (.agg ds) ds.toList rfl rfl rfl (by rw [Array.length_toList]; exact HI99.out) HD1.out HE2.out (by have h := HDL.out; simp [dig, nums, noughts, h]) ?_
  intro w3 hb3 hg3
  have hE3 : Dg w3 E hs xs k n := ⟨HD.out.h8, HD.out.x64, by rw [hb3, HDS.out]⟩
  have hg3' : w1.grownBy w3 none := grown_step ((grown_of_below HB2.out none)) hg3 (by have := HE.out; omega)
  have HE3 := Aside0.mk hE3
  have HG3 := Aside0.mk hg3'
  have hE4 : E ≠ 4 := by have := HE.out; have := blk_lt HK.out.blk; omega
  have HC := Aside0.mk (check_sum E k n hs xs K w3 hE3 (HK.out.grown hg3' (by simp)) HKN.out hn HX8.out HW.out hE4)
  have HZ3 := Aside0.mk hg3.size
  clear hb3 hg3 hE3 hg3' hE4
  go_wp2_with fail
  (with_reducible refine HC.out.mono ?_)
  rintro e w4 ⟨rfl, c74, hg4⟩
  have hg4' : w1.grownBy w4 none := grown_step HG3.out hg4 (by have := HE.out; omega)
  have HG4 := Aside0.mk hg4'
  have HZ4 := Aside0.mk hg4.size
  clear hg4 hg4' HC
  go_wp2_with (first
    | ((with_reducible refine gate_dst (N := 6) rfl ?_); refine alloc_known rfl 6 rfl 74 rfl _ zero74 ?_; intro H hH w5 hb5 hB5; have HH := Aside0.mk hH; have HH5 := Aside0.mk hb5; have HB5 := Aside0.mk hB5; clear hH hb5 hB5)
    | ((with_reducible refine gate_store (t := 74) (p := 6) rfl ?_); refine stop_here ?_))
  unfold Stopped
  refine store_all rfl rfl 74 (.tmp 6) (.tmp 11) rfl H _ 74 (.agg cs) cs.toList rfl (by rw [HCS.out, HL.out]; rfl) rfl (by rw [Array.length_toList]; exact HI74.out) H1C.out HH5.out (by have h := HLL.out; simp [nums, noughts, h]) ?_
  intro w6 hb6 hg6
  have hH6 : w6.heap[H]? = some (.cells cs 74 (0, 0)) := by rw [hb6]
  have hg6' : w1.grownBy w6 none := grown_step (HG4.out.trans (grown_of_below HB5.out none)) hg6 (by have := HH.out; have := HG4.out.size; omega)
  have HH6 := Aside0.mk hH6
  have HG6 := Aside0.mk hg6'
  have HS6 := Aside0.mk (HS.out.grown hg6' (by simp))
  have c74' := ((grown_of_below HB5.out (some H)).trans hg6).cell c74 (by intro e; have e : E = H := Option.some.inj e; have := HH.out; have := HE.out; have := HZ3.out; have := HZ4.out; have := blk_lt HE2.out; omega)
  clear hb6 hg6 hH6 hg6' c74
  go_wp2_with ((with_reducible refine gate_builtin (b := .append) rfl ?_); at_builtin; refine append32 rfl (.tmp 17) (.tmp 18) rfl S H _ cs rfl rfl HS6.out.2 (by simp [nums]) HH6.out HLL.out H1C.out ?_; intro w7 hb7 hg7; have HB7 := Aside0.mk hb7; have HG7 := Aside0.mk hg7; clear hb7 hg7)
  go_ret
  exact ⟨rfl, HB7.out, (grown_any HG6.out _).trans HG7.out⟩
end Go.Proofs.YtodofpjdcongnaaDoor.Sign

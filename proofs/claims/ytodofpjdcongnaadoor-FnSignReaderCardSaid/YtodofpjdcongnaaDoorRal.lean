/- io.ReadAtLeast and io.ReadFull over a bytes.Reader. -/
import Derived.Test.YtodofpjdcongnaaDoorRdr
import Derived.StillTailTactics
import Derived.LoopN
import Derived.LaidEql
import Derived.Deep.RegionWith
namespace Go.Proofs.YtodofpjdcongnaaDoor.Sign
open Go.RowKit Go.Proofs.YtodofpjdcongnaaDoorW.PrintWords

theorem meth_read (a : Addr) (w : World) : (method 237 54 (.pointer (some a)) "Read").run Tryd.prog w = .ok (81, .pointer (some a)) w := by kernel_rfl
theorem ahead_read (a : Addr) (w : World) : (nilAhead 237 54 (.pointer (some a)) "Read").run Tryd.prog w = .ok (some false) w := by kernel_rfl
theorem comp100 : (Tryd.prog.info? 100).map (·.comparable) = some true := by kernel_rfl
theorem size129 : (Tryd.prog.info? 129).map (·.size) = some 1 := by kernel_rfl

theorem two_drawn {w w1 : World} {G b : Nat} (h : Two w w1 G b) (n : Nat) : Two w (w1.drewN n) G b := ⟨h.os, h.tape, h.output, h.size, h.block⟩
theorem two_drew {w w1 : World} {G b : Nat} (h : Two w.drew w1 G b) : Two w w1 G b := ⟨h.os, h.tape, h.output, h.size, h.block⟩

/-- an error of errors.New's make -/
abbrev ev (a : Addr) : Value := .iface 100 (.pointer (some a))
theorem cell_lt {w : World} {k o : Nat} {v : Value} (h : w.cell? ⟨k, o, none⟩ = some v) : k < w.heap.size := by
  unfold World.cell? at h
  split at h
  · rename_i hh
    exact (Array.getElem?_eq_some_iff.1 hh).1
  · cases h
theorem err_same (a : Addr) (w : World) : (binOp .eql 71 (ev a) (ev a)).run Tryd.prog w = .ok (.bool true) w := by
  cases hi : Tryd.prog.info? 100 with
  | none => have := comp100; rw [hi] at this; cases this
  | some i =>
    cases hj : Tryd.prog.info? 129 with
    | none => have := size129; rw [hj] at this; cases this
    | some j =>
      have hc : i.comparable = true := by have := comp100; rw [hi] at this; exact Option.some.inj this
      exact run_eql_iface_ptr_same w a Tryd.underlying71 Tryd.underlying100 hi hc hj

set_option maxHeartbeats 8000000 in
set_option maxRecDepth 100000 in
theorem ral_full (rb g b o n c p : Nat) (x : Int) (q pg : List Int) (w : World) (h : w.heap[rb]? = some (.cells #[.slice (some ⟨b, o, none⟩) n c, .int .i64 (p : Int), .int .i64 x] 77 (0, 0))) (hP : Pg w g pg) (hp : p + 4096 ≤ n) (hn : n ≤ 2147483647) (hnc : n ≤ c) (hql : q.length = n) (hq : ∀ i, i < n → w.cell? ⟨b, o + i, none⟩ = some (.int .u8 (q.getD i 0))) (hrg : rb ≠ g) (hbr : b ≠ rb) :
    Calls Tryd.prog 47 #[.iface 54 (.pointer (some ⟨rb, 0, none⟩)), .slice (some ⟨g, 0, none⟩) 4096 4096, .int .i64 4096] w fun e w' => e = .returned (.tuple #[.int .i64 4096, .nilIface]) ∧ w'.heap[rb]? = some (.cells #[.slice (some ⟨b, o, none⟩) n c, .int .i64 ((p + 4096 : Nat) : Int), .int .i64 (-1)] 77 (0, 0)) ∧ Pg w' g ((q.drop p).take 4096 ++ pg.drop 4096) ∧ Two w w' rb g := by
  have H := Aside0.mk h
  have HP := Aside0.mk hP
  have HQ := Aside0.mk hq
  have HQL := Aside0.mk hql
  have HRG := Aside0.mk hrg
  have HBR := Aside0.mk hbr
  clear h hP hq hql hrg hbr
  go_enter Tryd.func47, Tryd.ntmps47
  go_wp2_with fail
  refine wp_loop_rounds 2 ?_
  rw [rounds_succ]
  have hm1 := meth_read ⟨rb, 0, none⟩
  have hm2 := ahead_read ⟨rb, 0, none⟩
  go_wp2_with fail
  have HC := Aside0.mk (rd_some rb g b o n c p 4096 x q pg w.drew H.out (HP.out.grown (grown_drew w none) (by simp)) (by omega) (by omega) hn hnc HQL.out (fun i hi => HQ.out i hi) HRG.out HBR.out)
  go_region_with (go_at_call 81; (with_reducible refine HC.out.mono ?_); rintro e w2 ⟨rfl, hb2, hP2, ht2⟩)
  all_goals
    have HB2 := Aside0.mk hb2
    have HP2 := Aside0.mk hP2
    have HT2 := Aside0.mk (two_drew ht2)
    clear hb2 hP2 ht2 HC hm2
    go_wp2_with fail
    rw [rounds_succ]
    go_wp2
    go_ret2
    exact ⟨rfl, HB2.out, HP2.out, HT2.out⟩
set_option maxHeartbeats 8000000 in
set_option maxRecDepth 100000 in
theorem ral_part (rb g b o n c p m : Nat) (ae au : Addr) (x : Int) (q pg : List Int) (w : World) (h : w.heap[rb]? = some (.cells #[.slice (some ⟨b, o, none⟩) n c, .int .i64 (p : Int), .int .i64 x] 77 (0, 0))) (hP : Pg w g pg) (hp : p < n) (hm : m = n - p) (hm4 : m < 4096) (he : w.cell? ⟨0, 0, none⟩ = some (ev ae)) (hu : w.cell? ⟨1, 0, none⟩ = some (ev au)) (h0r : 0 ≠ rb) (h0g : 0 ≠ g) (h1r : 1 ≠ rb) (h1g : 1 ≠ g) (hn : n ≤ 2147483647) (hnc : n ≤ c) (hql : q.length = n) (hq : ∀ i, i < n → w.cell? ⟨b, o + i, none⟩ = some (.int .u8 (q.getD i 0))) (hrg : rb ≠ g) (hbr : b ≠ rb) :
    Calls Tryd.prog 47 #[.iface 54 (.pointer (some ⟨rb, 0, none⟩)), .slice (some ⟨g, 0, none⟩) 4096 4096, .int .i64 4096] w fun e w' => e = .returned (.tuple #[.int .i64 m, ev au]) ∧ w'.heap[rb]? = some (.cells #[.slice (some ⟨b, o, none⟩) n c, .int .i64 ((p + m : Nat) : Int), .int .i64 (-1)] 77 (0, 0)) ∧ Pg w' g ((q.drop p).take m ++ pg.drop m) ∧ Two w w' rb g := by
  have H := Aside0.mk h
  have HP := Aside0.mk hP
  have HQ := Aside0.mk hq
  have HQL := Aside0.mk hql
  have HRG := Aside0.mk hrg
  have HBR := Aside0.mk hbr
  have HM := Aside0.mk hm
  have HE := Aside0.mk he
  have HU := Aside0.mk hu
  have H0 := Aside0.mk (And.intro h0r h0g)
  have H1 := Aside0.mk (And.intro h1r h1g)
  have hm0 : 0 < m := by omega
  have hmi : (m : Int) < 4096 := by omega
  have hmi2 : (0 : Int) < (m : Int) := by omega
  clear h hP hq hql hrg hbr hm he hu h0r h0g h1r h1g
  go_enter Tryd.func47, Tryd.ntmps47
  go_wp2_with fail
  refine wp_loop_rounds 3 ?_
  rw [rounds_succ]
  have hm1 := meth_read ⟨rb, 0, none⟩
  have hm2 := ahead_read ⟨rb, 0, none⟩
  go_wp2_with fail
  have HC := Aside0.mk (rd_some rb g b o n c p m x q pg w.drew H.out (HP.out.grown (grown_drew w none) (by simp)) hp (by have := HM.out; omega) hn hnc HQL.out (fun i hi => HQ.out i hi) HRG.out HBR.out)
  go_region_with (go_at_call 81; (with_reducible refine HC.out.mono ?_); rintro e w2 ⟨rfl, hb2, hP2, ht2⟩)
  all_goals
    have HB2 := Aside0.mk hb2
    have HP2 := Aside0.mk hP2
    have HT2 := Aside0.mk (two_drew ht2)
    have hpm : p + m = n := by have := HM.out; omega
    have hb2' := hb2
    rw [hpm] at hb2'
    have he2 := two_cell (two_drew ht2) HE.out (cell_lt HE.out) H0.out.1 H0.out.2
    have hu2 := two_cell (two_drew ht2) HU.out (cell_lt HU.out) H1.out.1 H1.out.2
    have HC2 := Aside0.mk (rd_eof rb n c (4096 - m) (4096 - m) (some ⟨b, o, none⟩) (some ⟨g, m, none⟩) (-1) (ev ae) w2.drew hb2' he2)
    have HU2 := Aside0.mk hu2
    have HE2 := Aside0.mk he2
    clear hb2 hP2 ht2 HC hpm hb2' he2 hu2
    go_wp2_with fail
    rw [rounds_succ]
    go_wp2_with fail
    have hne : ¬ (4096 : Nat) = m := by omega
    have hle : (m : Int) ≤ 4096 := by omega
    have hm2 := ahead_read ⟨rb, 0, none⟩
    go_region_with (go_at_call 81; (with_reducible refine HC2.out.mono ?_); rintro e w3 ⟨rfl, nd, rfl⟩)
    all_goals
      have he2 := HE2.out
      have hu2 := HU2.out
      have hes := err_same ae
      clear hm2 HC2
      go_wp2_with fail
      rw [rounds_succ]
      go_wp2
      go_ret2
      exact ⟨rfl, HB2.out, ⟨HP2.out.len, HP2.out.blk⟩, two_drawn HT2.out _⟩
set_option maxHeartbeats 4000000 in
theorem rf_full (rb g b o n c p : Nat) (x : Int) (q pg : List Int) (w : World) (h : w.heap[rb]? = some (.cells #[.slice (some ⟨b, o, none⟩) n c, .int .i64 (p : Int), .int .i64 x] 77 (0, 0))) (hP : Pg w g pg) (hp : p + 4096 ≤ n) (hn : n ≤ 2147483647) (hnc : n ≤ c) (hql : q.length = n) (hq : ∀ i, i < n → w.cell? ⟨b, o + i, none⟩ = some (.int .u8 (q.getD i 0))) (hrg : rb ≠ g) (hbr : b ≠ rb) :
    Calls Tryd.prog 38 #[.iface 54 (.pointer (some ⟨rb, 0, none⟩)), .slice (some ⟨g, 0, none⟩) 4096 4096] w fun e w' => e = .returned (.tuple #[.int .i64 4096, .nilIface]) ∧ w'.heap[rb]? = some (.cells #[.slice (some ⟨b, o, none⟩) n c, .int .i64 ((p + 4096 : Nat) : Int), .int .i64 (-1)] 77 (0, 0)) ∧ Pg w' g ((q.drop p).take 4096 ++ pg.drop 4096) ∧ Two w w' rb g := by
  have HC := Aside0.mk (ral_full rb g b o n c p x q pg w h hP hp hn hnc hql hq hrg hbr)
  clear h hP hp hn hnc hql hq hrg hbr
  go_enter Tryd.func38, Tryd.ntmps38
  go_wp2_with fail
  (with_reducible refine HC.out.mono ?_)
  rintro e w1 ⟨rfl, hb, hP, ht⟩
  have HB := Aside0.mk hb
  have HP := Aside0.mk hP
  have HT := Aside0.mk ht
  clear hb hP ht HC
  go_wp2
  go_ret2
  exact ⟨rfl, HB.out, HP.out, HT.out⟩

set_option maxHeartbeats 4000000 in
theorem rf_part (rb g b o n c p m : Nat) (ae au : Addr) (x : Int) (q pg : List Int) (w : World) (h : w.heap[rb]? = some (.cells #[.slice (some ⟨b, o, none⟩) n c, .int .i64 (p : Int), .int .i64 x] 77 (0, 0))) (hP : Pg w g pg) (hp : p < n) (hm : m = n - p) (hm4 : m < 4096) (he : w.cell? ⟨0, 0, none⟩ = some (ev ae)) (hu : w.cell? ⟨1, 0, none⟩ = some (ev au)) (h0r : 0 ≠ rb) (h0g : 0 ≠ g) (h1r : 1 ≠ rb) (h1g : 1 ≠ g) (hn : n ≤ 2147483647) (hnc : n ≤ c) (hql : q.length = n) (hq : ∀ i, i < n → w.cell? ⟨b, o + i, none⟩ = some (.int .u8 (q.getD i 0))) (hrg : rb ≠ g) (hbr : b ≠ rb) :
    Calls Tryd.prog 38 #[.iface 54 (.pointer (some ⟨rb, 0, none⟩)), .slice (some ⟨g, 0, none⟩) 4096 4096] w fun e w' => e = .returned (.tuple #[.int .i64 m, ev au]) ∧ w'.heap[rb]? = some (.cells #[.slice (some ⟨b, o, none⟩) n c, .int .i64 ((p + m : Nat) : Int), .int .i64 (-1)] 77 (0, 0)) ∧ Pg w' g ((q.drop p).take m ++ pg.drop m) ∧ Two w w' rb g := by
  have HC := Aside0.mk (ral_part rb g b o n c p m ae au x q pg w h hP hp hm hm4 he hu h0r h0g h1r h1g hn hnc hql hq hrg hbr)
  clear h hP hp hm hm4 he hu h0r h0g h1r h1g hn hnc hql hq hrg hbr
  go_enter Tryd.func38, Tryd.ntmps38
  go_wp2_with fail
  (with_reducible refine HC.out.mono ?_)
  rintro e w1 ⟨rfl, hb, hP, ht⟩
  have HB := Aside0.mk hb
  have HP := Aside0.mk hP
  have HT := Aside0.mk ht
  clear hb hP ht HC
  go_wp2
  go_ret2
  exact ⟨rfl, HB.out, HP.out, HT.out⟩

end Go.Proofs.YtodofpjdcongnaaDoor.Sign

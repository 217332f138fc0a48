/- wrapLine: the pieces of a line, each with the indent ahead and a newline behind, go into the builder. -/
import Derived.Test.YtcblhkcdolaigaaWrapB
import Derived.Deep.CutBlock
import Derived.Deep.DeepCutAuto
import Derived.Deep.LoopGhost
namespace Go.Proofs.Ytcblhkcdolaigaa.Wrap
open Go.RowKit Go.Proofs.YtcblhkcdolaigaaW.PrintWords

theorem builder_below {T e B b : Nat} {bs : List Value} {w w1 : World} (h : Lib.IsBuilder T e B b bs w) (hb : Below w.heap.size w w1) : Lib.IsBuilder T e B b bs w1 := by
  have one : ∀ p, Lib.BuilderAt T e B b p bs w → Lib.BuilderAt T e B b p bs w1 := by
    intro p hp
    have hlt := hp.lt
    obtain ⟨hB, v, hv, hown, hne⟩ := hp
    exact ⟨hB, v, (hb.block b hlt).trans hv, pw_own_below hown hb, hne⟩
  exact h.elim (fun x => .inl (one _ x)) (fun x => .inr (one _ x))

/-- what the search for the best space has found behind the bytes up to pos -/
def Seen (cols : Int) (cur : ByteArray) (pos : Nat) (best : Int) : Prop :=
  (best = -1 ∧ NoSp cur 0 pos) ∨ (0 ≤ best ∧ best < pos ∧ bt cur best = 32 ∧ (best ≤ cols ∨ NoSp cur 0 best.toNat))
/-- what it has found at its end -/
def Found (cols : Int) (cur : ByteArray) (best : Int) : Prop :=
  (best = -1 ∧ NoSp cur 0 cur.size) ∨ (0 ≤ best ∧ best < cur.size ∧ bt cur best = 32 ∧ (best ≤ cols ∨ NoSp cur 0 best.toNat))
theorem seen_range {cols : Int} {cur : ByteArray} {pos : Nat} {best : Int} (h : Seen cols cur pos best) : -1 ≤ best ∧ best < pos := by
  rcases h with ⟨rfl, _⟩ | ⟨h0, h1, _⟩ <;> omega
theorem seen_skip {cols : Int} {cur : ByteArray} {pos q : Nat} {best : Int} (h : Seen cols cur pos best) (hq : pos ≤ q) (hn : ∀ j : Nat, pos ≤ j → j < q → bt cur (j : Int) ≠ 32) : Seen cols cur q best := by
  rcases h with ⟨rfl, hs⟩ | ⟨h0, h1, h2, h3⟩
  · refine .inl ⟨rfl, fun j h0 h1 => ?_⟩
    by_cases hj : j < pos
    · exact hs j h0 hj
    · exact hn j (by omega) h1
  · exact .inr ⟨h0, by omega, h2, h3⟩
theorem seen_take {cols : Int} {cur : ByteArray} {pos : Nat} {best : Int} (h : Seen cols cur pos best) (h32 : bt cur (pos : Int) = 32) (hc : (pos : Int) ≤ cols ∨ best < 0) : Seen cols cur (pos + 1) (pos : Int) := by
  refine .inr ⟨by omega, by omega, h32, ?_⟩
  rcases hc with hc | hc
  · exact .inl hc
  · rcases h with ⟨rfl, hs⟩ | ⟨h0, _⟩
    · exact .inr (by simpa using hs)
    · omega
theorem found_of {cols : Int} {cur : ByteArray} {pos : Nat} {best : Int} (h : Seen cols cur pos best) (hp : pos ≤ cur.size) (he : pos = cur.size ∨ 0 ≤ best) : Found cols cur best := by
  rcases h with ⟨rfl, hs⟩ | ⟨h0, h1, h2, h3⟩
  · rcases he with rfl | h
    · exact .inl ⟨rfl, hs⟩
    · omega
  · exact .inr ⟨h0, by omega, h2, h3⟩

theorem found_neg {cols : Int} {cur : ByteArray} {best : Int} (h : Found cols cur best) (hb : best < 0) : NoSp cur 0 cur.size := by
  rcases h with ⟨_, h⟩ | ⟨h, _⟩
  · exact h
  · omega
theorem found_pos {cols : Int} {cur : ByteArray} {n : Nat} (h : Found cols cur (n : Int)) : n < cur.size ∧ bt cur (n : Int) = 32 ∧ ((n : Int) ≤ cols ∨ NoSp cur 0 n) := by
  rcases h with ⟨h, _⟩ | ⟨_, h1, h2, h3⟩
  · omega
  · exact ⟨by omega, h2, by simpa using h3⟩

/-- what holds at the head of each round of wrapLine -/
def Rel (cols : Int) (line indent : ByteArray) (B b : Nat) (w0 : World) (k : Nat) (v : Value) (wr : World) : Prop :=
  ∃ (cur : ByteArray) (D : List ByteArray), v = .string cur ∧ cur.size ≤ k ∧ cur.size ≤ line.size ∧ (∀ L, Pieces cols cur L → Pieces cols line (D ++ L)) ∧
    total indent.size D + cur.size * (indent.size + 1) ≤ line.size * (indent.size + 1) ∧ Lib.IsBuilder 59 5 B b (Lib.byteCells (shown indent.data.toList D)) wr ∧ Below B w0 wr ∧ B ≤ wr.heap.size

theorem cells_of (s : ByteArray) : Lib.strCells s = Lib.byteCells s.data.toList := rfl
theorem size_list (s : ByteArray) : s.data.toList.length = s.size := by rw [Array.length_toList]; rfl

theorem room {line indent : ByteArray} {D : List ByteArray} {n m : Nat} (hl : line.size ≤ 2097152) (hi : indent.size ≤ 2097152) (hT : total indent.size D + m * (indent.size + 1) ≤ line.size * (indent.size + 1)) (hn : n ≤ 8388608) :
    (Lib.byteCells (shown indent.data.toList D)).length + n ≤ 140737488355328 := by
  have h1 : line.size * (indent.size + 1) ≤ 2097152 * 2097153 := Nat.mul_le_mul hl (by omega)
  rw [Lib.byteCells_length, shown_length, size_list]
  omega

theorem piece_size (indent x : ByteArray) : (indent ++ x ++ (⟨#[10]⟩ : ByteArray)).size = indent.size + x.size + 1 := by
  rw [ByteArray.size_append, ByteArray.size_append]; rfl

theorem piece_cells (indent x : ByteArray) (D : List ByteArray) :
    Lib.byteCells (shown indent.data.toList D) ++ Lib.strCells (indent ++ x ++ (⟨#[10]⟩ : ByteArray)) = Lib.byteCells (shown indent.data.toList (D ++ [x])) := by
  rw [cells_of, ← Lib.byteCells_append, shown_append]
  congr 2
  simp [shown]

theorem more_bound {a i d n c : Nat} (h : d + c * (i + 1) ≤ a) (hn : n < c) : d + (i + n + 1) + (c - (n + 1)) * (i + 1) ≤ a := by
  have h1 : (n + 1) * (i + 1) + (c - (n + 1)) * (i + 1) = c * (i + 1) := by rw [← Nat.add_mul]; congr 1; omega
  have h2 : (n + 1) * (i + 1) = n * i + n + i + 1 := by rw [Nat.add_mul, Nat.mul_add]; omega
  omega

set_option maxHeartbeats 4000000 in
set_option maxRecDepth 100000 in
theorem wrap_line (B b : Nat) (line indent : ByteArray) (cols : Int) (w : World) (h : Lib.IsBuilder 59 5 B b [] w) (hBw : B ≤ w.heap.size)
    (hl : line.size ≤ 2097152) (hi : indent.size ≤ 2097152) (h0 : 0 < line.size) (h32 : bt line 0 ≠ 32) (hc0 : 0 < cols) (hc1 : cols ≤ 1000) :
    Calls Try.prog 42 #[.iface 57 (.pointer (some ⟨b, 0, none⟩)), .string line, .int .i64 cols, .string indent] w fun e w' => ∃ L : List ByteArray, e = .returned .nilIface ∧ Pieces cols line L ∧ Lib.IsBuilder 59 5 B b (Lib.byteCells (shown indent.data.toList L)) w' ∧ Below B w w' := by
  have HI := Aside0.mk h
  have H32 := Aside0.mk h32
  clear h h32
  go_enter Try.func42, Try.ntmps42
  go_wp2_with (go_at_call 48; (with_reducible refine (trim_stays line _ h0 (by omega) H32.out).mono ?_); rintro e w1 ⟨rfl, b1⟩)
  have hB1 := b1.size
  have R0 := Aside0.mk (show Rel cols line indent B b w line.size (.string line) w1 from ⟨line, [], rfl, Nat.le_refl _, Nat.le_refl _, fun L h => by simpa using h, by simp [total], by simpa [shown, Lib.byteCells] using builder_below HI.out b1, b1.mono hBw, by omega⟩)
  clear HI H32 b1
  go_loopg [1] line.size (fun k v1 wr => Rel cols line indent B b w k v1 wr)
  case atStart => exact R0.out
  case round =>
    clear R0
    obtain ⟨wo, rfl⟩ : ∃ wo : World, wo = wr := ⟨_, rfl⟩
    obtain ⟨cur, D, rfl, hk, hcl, hP, hT, hI, hbw, hBr⟩ := hrel
    have HP := Aside0.mk hP
    have HT := Aside0.mk hT
    have HI := Aside0.mk hI
    have HB := Aside0.mk hbw
    clear hP hT hI hbw
    by_cases hlen : cols < cur.size
    · go_upto_block 2 with (fail)
      go_cut [9] (fun v9 wc => ∃ best : Int, v9 = .int .i64 best ∧ Found cols cur best ∧ Below wo.heap.size wo wc)
      case first =>
        clear HP HT HI HB
        go_wp2_with fail
        go_loopw [9] (fun v9 wi => ∃ (pos : Nat) (best : Int), v9 = .int .i64 best ∧ pos ≤ cur.size ∧ wi.heap[wo.heap.size]? = some (.stringIter cur pos) ∧ Below wo.heap.size wo wi ∧ Seen cols cur pos best) (fun _ wi => cur.size - wi.iterPos wo.heap.size)
        case atStart =>
          refine ⟨0, -1, rfl, by omega, by simpa using World.iter_heap wo cur 0, (Below.refl _ wo).alloc (Nat.le_refl _) _, .inl ⟨rfl, fun j h0 h1 => by omega⟩⟩
        case round =>
          obtain ⟨pos, best, rfl, hp, hit, hbi, hS⟩ := hrel
          have hsr := seen_range hS
          have HS := Aside0.mk hS
          have HIT := Aside0.mk hit
          clear hS
          by_cases hpos : pos < cur.size
          · by_cases hr : bt cur (pos : Int) = 32
            · have hdec : Utf8.decode cur pos = (32, 1) := by
                rw [bt_get cur pos hpos] at hr
                rw [decode_ascii cur pos hpos (by omega)]
                exact Prod.ext (by simp only; omega) rfl
              have hnx : ∀ ty, (Instr.next (.pointer (some ⟨wo.heap.size, 0, none⟩)) true ty).run Try.prog wr = .ok (.tuple #[.bool true, .int .i64 pos, .int .i32 32]) (wr.iterAt wo.heap.size cur (pos + 1)) := fun ty => by
                have h := Lib.run_next_any_at (P := Try.prog) wr wo.heap.size cur pos ty hit hpos
                rw [hdec] at h
                exact h
              have HT2 := Aside0.mk (Lib.iterAt_heap wr wo.heap.size cur pos (pos + 1) hit)
              have HB2 := Aside0.mk (Lib.below_iterAt hbi (k := wo.heap.size) (by omega) cur (pos + 1))
              have HR := Aside0.mk hr
              clear hdec hit hbi hr
              by_cases hc : (pos : Int) ≤ cols
              · go_wp2_with fail
                go_roundw
                case rel => exact ⟨pos + 1, pos, rfl, by omega, HT2.out, HB2.out, seen_take HS.out HR.out (.inl hc)⟩
                case measure => simp only [World.iterPos, HT2.out, HIT.out]; omega
              · by_cases hb : best < 0
                · go_wp2_with fail
                  go_meet
                  case rel => exact ⟨pos, rfl, found_of (seen_take HS.out HR.out (.inr hb)) (by omega) (.inr (by omega)), HB2.out⟩
                · go_wp2_with fail
                  go_meet
                  case rel => exact ⟨best, rfl, found_of HS.out (by omega) (.inr (by omega)), HB2.out⟩
            · have hr' : (((Utf8.decode cur pos).1 : Int) == 32) = false := by
                rw [beq_eq_false_iff_ne]
                intro h
                exact hr ((rune_is cur pos hpos 32 (by decide)).1 (by omega))
              have hd1 := decode_le cur pos
              obtain ⟨hw1, hw2, hw3⟩ := rune_bytes cur pos hpos
              have hnx : ∀ ty, (Instr.next (.pointer (some ⟨wo.heap.size, 0, none⟩)) true ty).run Try.prog wr = .ok (.tuple #[.bool true, .int .i64 pos, .int .i32 (Utf8.decode cur pos).1]) (wr.iterAt wo.heap.size cur (pos + (Utf8.decode cur pos).2)) := fun ty => Lib.run_next_any_at (P := Try.prog) wr wo.heap.size cur pos ty hit hpos
              have HT2 := Aside0.mk (Lib.iterAt_heap wr wo.heap.size cur pos (pos + (Utf8.decode cur pos).2) hit)
              have HB2 := Aside0.mk (Lib.below_iterAt hbi (k := wo.heap.size) (by omega) cur (pos + (Utf8.decode cur pos).2))
              have HS2 := Aside0.mk (seen_skip HS.out (q := pos + (Utf8.decode cur pos).2) (by omega) (fun j h1 h2 => by
                by_cases e : j = pos
                · subst e; exact hr
                · have := hw3 j (by omega) h2; omega))
              clear hit hbi hr hw3
              go_wp2_with fail
              go_roundw
              case rel => exact ⟨pos + (Utf8.decode cur pos).2, best, rfl, by omega, HT2.out, HB2.out, HS2.out⟩
              case measure => simp only [World.iterPos, HT2.out, HIT.out]; omega
          · have hnx : ∀ ty, (Instr.next (.pointer (some ⟨wo.heap.size, 0, none⟩)) true ty).run Try.prog wr = .ok (.tuple #[.bool false]) wr := fun ty => Lib.run_next_end_at wr wo.heap.size cur pos ty hit hpos
            have HB2 := Aside0.mk hbi
            clear hit hbi
            go_wp2_with fail
            go_meet
            case rel => exact ⟨best, rfl, found_of HS.out hp (.inl (by omega)), HB2.out⟩
      case rest =>
        obtain ⟨best, rfl, hF, hbc⟩ := hcut
        have HF := Aside0.mk hF
        have HI2 := Aside0.mk (builder_below HI.out hbc)
        have HB2 := Aside0.mk (below_then HB.out hBr hbc)
        have hsz := hbc.size
        clear hF hbc HI HB
        by_cases hneg : best < 0
        · have HL := Aside0.mk (show Pieces cols line (D ++ [cur]) from HP.out _ (.last cur (.inr (found_neg HF.out hneg))))
          go_wp2_with fail
          (with_reducible refine (io_write B b (Lib.byteCells (shown indent.data.toList D)) (indent ++ cur ++ ⟨#[10]⟩) _ HI2.out (room hl hi HT.out (by rw [piece_size]; omega)) (by omega)).mono ?_)
          rintro e w2 ⟨rfl, h2, b2⟩
          go_wp2_with fail
          go_ret
          refine ⟨D ++ [cur], rfl, HL.out, .inr ?_, HB2.out.trans b2⟩
          rw [← piece_cells]; exact h2
        · obtain ⟨n, rfl⟩ := Int.eq_ofNat_of_zero_le (show 0 ≤ best by omega)
          have hn : n < cur.size := (found_pos HF.out).1
          have hx : (cur.extract 0 n).size = n := by rw [ByteArray.size_extract]; omega
          have HX := Aside0.mk hx
          clear hx
          have HP2 := Aside0.mk (show ∀ L, Pieces cols (cur.extract (n + 1) cur.size) L → Pieces cols line ((D ++ [cur.extract 0 n]) ++ L) from fun L hL => by
            rw [List.append_assoc]
            exact HP.out _ (.more cur n L hlen hn (found_pos HF.out).2.1 (found_pos HF.out).2.2 hL))
          go_wp2_with fail
          (with_reducible refine (io_write B b (Lib.byteCells (shown indent.data.toList D)) (indent ++ cur.extract 0 n ++ ⟨#[10]⟩) _ HI2.out (room hl hi HT.out (by rw [piece_size, HX.out]; omega)) (by omega)).mono ?_)
          rintro e w2 ⟨rfl, h2, b2⟩
          have HB3 := Aside0.mk b2
          have H2 := Aside0.mk h2
          clear h2 b2
          go_wp2_with fail
          have hxs : (cur.extract (n + 1) cur.size).size = cur.size - (n + 1) := by rw [ByteArray.size_extract]; omega
          have HF2 := Aside0.mk (show Rel cols line indent B b w (cur.size - (n + 1)) (.string (cur.extract (n + 1) cur.size)) w2 from
            ⟨cur.extract (n + 1) cur.size, D ++ [cur.extract 0 n], rfl, by omega, by omega, HP2.out, by
              rw [total_append, hxs]
              have h1 : total indent.size [cur.extract 0 n] = indent.size + n + 1 := by simp only [total, HX.out]
              rw [h1]
              exact more_bound HT.out hn, .inr (by rw [← piece_cells]; exact H2.out), HB2.out.trans HB3.out, by have := HB3.out.size; omega⟩)
          clear hxs
          go_roundg (cur.size - (n + 1))
          case measure => omega
          case rel => exact HF2.out
    · have HL := Aside0.mk (show Pieces cols line (D ++ [cur]) from HP.out _ (.last cur (.inl (by omega))))
      go_wp2_with fail
      (with_reducible refine (io_write B b (Lib.byteCells (shown indent.data.toList D)) (indent ++ cur ++ ⟨#[10]⟩) _ HI.out (room hl hi HT.out (by rw [piece_size]; omega)) (by omega)).mono ?_)
      rintro e w2 ⟨rfl, h2, b2⟩
      go_wp2_with fail
      go_ret
      refine ⟨D ++ [cur], rfl, HL.out, .inr ?_, HB.out.trans b2⟩
      rw [← piece_cells]; exact h2

end Go.Proofs.Ytcblhkcdolaigaa.Wrap

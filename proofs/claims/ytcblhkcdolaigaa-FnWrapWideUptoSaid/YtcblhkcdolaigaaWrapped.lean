/- laws.scWrapped of pieces that are shown with an indent and newlines: the pieces, and true. Conditions: neither pieces nor indent have newlines; there is a piece; 2^42 bytes at most. -/
import Derived.Test.YtcblhkcdolaigaaSplit
namespace Go.Proofs.Ytcblhkcdolaigaa.Split
open Go.RowKit Go.Proofs.YtcblhkcdolaigaaW.PrintWords

theorem shown_split (ind : List UInt8) (L : List ByteArray) (hi : ∀ b ∈ ind, b ≠ 10) (hL : ∀ x ∈ L, ∀ b ∈ x.data.toList, b ≠ 10) :
    splitNL (Wrap.shown ind L) = L.map (fun x => ind ++ x.data.toList) ++ [[]] := by
  induction L with
  | nil => rfl
  | cons x L ih =>
    have e : Wrap.shown ind (x :: L) = (ind ++ x.data.toList) ++ 10 :: Wrap.shown ind L := by simp [Wrap.shown]
    rw [e, split_at, ih (fun y hy => hL y (List.mem_cons_of_mem _ hy))]
    · rfl
    · intro b hb
      rcases List.mem_append.1 hb with h | h
      · exact hi b h
      · exact hL x List.mem_cons_self b h

theorem bytes_ext {a b : ByteArray} (h : a.data.toList = b.data.toList) : a = b := ByteArray.ext (Array.ext' h)

theorem lst_inj {A B : List ByteArray} (h : lst A = lst B) : A = B := by
  induction A generalizing B with
  | nil =>
    cases B with
    | nil => rfl
    | cons b B => simp [lst] at h
  | cons a A ih =>
    cases B with
    | nil => simp [lst] at h
    | cons b B =>
      simp only [lst, List.map_cons, List.cons.injEq] at h
      rw [bytes_ext h.1, ih h.2]

theorem lines_are (s indent : ByteArray) (L R : List ByteArray) (hs : s.data.toList = Wrap.shown indent.data.toList L) (hi : ∀ b ∈ indent.data.toList, b ≠ 10)
    (hL : ∀ x ∈ L, ∀ b ∈ x.data.toList, b ≠ 10) (hR : lst R = splitNL s.data.toList) : R = L.map (fun x => indent ++ x) ++ [⟨#[]⟩] := by
  apply lst_inj
  rw [hR, hs, shown_split _ _ hi hL]
  simp [lst]

theorem own_cap {w : World} {base g n cap : Nat} {e : TypeId} {xs : List Value} (h : w.ownsRow base e 1 (.slice (some ⟨g, 0, none⟩) n cap) n xs) : n ≤ cap := by
  rcases h.2 with ⟨h', _⟩ | ⟨g', cap', cur, h', _, _, hnc, _⟩
  · cases h'
  · injection h' with _ _ h3
    omega

theorem last_cell (indent : ByteArray) (L : List ByteArray) : (pw_strs (L.map (fun x => indent ++ x) ++ [(⟨#[]⟩ : ByteArray)]))[L.length]? = some (.string ⟨#[]⟩) := by
  unfold pw_strs
  rw [List.map_append, List.getElem?_append_right (by simp)]
  simp
theorem line_cell (indent : ByteArray) (L : List ByteArray) (j : Nat) (h : j < L.length) : (pw_strs (L.map (fun x => indent ++ x) ++ [(⟨#[]⟩ : ByteArray)]))[j]? = some (.string (indent ++ L[j])) := by
  unfold pw_strs
  rw [List.map_append, List.getElem?_append_left (by simpa using h)]
  simp [h]

theorem strs_snoc (L : List ByteArray) (k : Nat) (h : k < L.length) : pw_strs (L.take k) ++ [Value.string L[k]] = pw_strs (L.take (k + 1)) := by
  rw [List.take_succ_eq_append_getElem h]
  unfold pw_strs
  rw [List.map_append]
  rfl
theorem strs_len (L : List ByteArray) (k : Nat) (h : k ≤ L.length) : (pw_strs (L.take k)).length = k := by
  unfold pw_strs
  rw [List.length_map, List.length_take]
  omega

set_option maxHeartbeats 4000000 in
set_option maxRecDepth 100000 in
theorem wrapped (s indent : ByteArray) (L : List ByteArray) (w : World) (hs : s.data.toList = Wrap.shown indent.data.toList L) (hi : ∀ b ∈ indent.data.toList, b ≠ 10)
    (hL : ∀ x ∈ L, ∀ b ∈ x.data.toList, b ≠ 10) (h0 : 0 < L.length) (hz : s.size ≤ 4398046511104) :
    Calls Try.prog 26 #[.string s, .string indent] w fun e w' => ∃ v : Value, e = .returned (.tuple #[v, .bool true]) ∧ w'.ownsRow w.heap.size 9 1 v L.length (pw_strs L) ∧ Below w.heap.size w w' := by
  have HS := Aside0.mk hs
  clear hs
  go_enter Try.func26, Try.ntmps26
  go_wp2_with fail
  (with_reducible refine (split s _ hz).mono ?_)
  rintro e w1 ⟨v, R, rfl, o1, hR, hRl, b1⟩
  have hR2 := lines_are s indent L R HS.out hi hL hR
  subst hR2
  rw [show (L.map (fun x => indent ++ x) ++ [(⟨#[]⟩ : ByteArray)]).length = L.length + 1 by simp] at o1 hRl
  obtain ⟨g, cap, rfl, hg1, hg2⟩ := o1.form (by omega)
  have hcap : L.length + 1 ≤ cap := own_cap o1
  have hlast : w1.cell? ⟨g, L.length, none⟩ = some (.string ⟨#[]⟩) := by
    have := o1.cells (g := g) rfl L.length (.string ⟨#[]⟩) (last_cell indent L)
    rwa [add_plain] at this
  have hcell : ∀ (j : Nat) (h : j < L.length), w1.cell? ⟨g, j, none⟩ = some (.string (indent ++ L[j])) := by
    intro j h
    have := o1.cells (g := g) rfl j (.string (indent ++ L[j])) (line_cell indent L j h)
    rwa [add_plain] at this
  have HC := Aside0.mk hcell
  have HB1 := Aside0.mk b1
  have hb1 := b1.size
  have hLn : L.length ≤ 4398046511104 := by omega
  clear o1 hR hcell b1
  go_wp2_with fail
  go_loopw [8, 29] (fun v8 v29 wr => ∃ k : Nat, v29 = .int .i64 k ∧ k ≤ L.length ∧ wr.ownsRow w1.heap.size 9 1 v8 k (pw_strs (L.take k)) ∧ Below w1.heap.size w1 wr) (fun _ v29 _ => L.length - (intOf v29).toNat)
  case atStart => exact ⟨0, rfl, Nat.zero_le _, own_nil _ _ _ _, Below.refl _ _⟩
  case round =>
    obtain ⟨k, rfl, hk, hO, hB⟩ := hrel
    have HO := Aside0.mk hO
    have HB := Aside0.mk hB
    have hsz := hB.size
    clear hO hB
    by_cases hlt : k < L.length
    · obtain ⟨ln, hln⟩ : ∃ ln : ByteArray, ln = indent ++ L[k] := ⟨_, rfl⟩
      have hcell : wr.cell? ⟨g, k, none⟩ = some (.string ln) := by
        rw [hln]
        exact (HB.out.cell (p := ⟨g, k, none⟩) hg2).trans (HC.out k hlt)
      have hn1 : indent.size ≤ ln.size := by rw [hln, ByteArray.size_append]; omega
      have hx0 : ln.extract 0 indent.size = indent := by rw [hln, ByteArray.extract_append_eq_left rfl]
      have hx1 : ln.extract indent.size ln.size = L[k] := by rw [hln]; exact ByteArray.extract_append_eq_right rfl (by rw [ByteArray.size_append])
      have hne : (indent.toList != indent.toList) = false := by simp
      clear hln
      have HL := Aside0.mk (strs_len L k hk)
      have hr16 : (k + 1) * 16 ≤ 140737488355328 := by omega
      go_wp2_with (at_builtin; refine print_append (w0 := w1) w1.heap.size rfl (.tmp 46) (.tmp 51) 37 9 (.string ⟨#[]⟩) 16 rfl Try.underlying37 info9 rfl (by decide) _ (pw_strs (L.take k)) (.string L[k]) rfl rfl rfl (by rw [HL.out]; exact HO.out) HB.out hsz (by rw [HL.out]; exact hr16) ?_; intro v2 w2 o2 b2 _ _)
      rw [strs_snoc L k hlt, strs_len L (k + 1) (by omega)] at o2
      go_roundw
      case rel => exact ⟨k + 1, by go_num, by omega, o2, b2⟩
      case measure => simp [intOf]; omega
    · obtain rfl : k = L.length := by omega
      have HO2 := Aside0.mk (show wr.ownsRow w.heap.size 9 1 u8 L.length (pw_strs L) from by
        have h := own_weaken HO.out hb1
        rwa [List.take_of_length_le (Nat.le_refl _)] at h)
      have HB2 := Aside0.mk (below_then HB1.out hb1 HB.out)
      clear HO HB HB1 HC
      go_wp2_with fail
      go_ret2
      exact ⟨u8, rfl, HO2.out, HB2.out⟩

end Go.Proofs.Ytcblhkcdolaigaa.Split

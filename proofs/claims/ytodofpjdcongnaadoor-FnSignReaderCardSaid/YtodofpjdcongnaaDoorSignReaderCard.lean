/- FnSignReader: for every input the law returns true and each argument reads as it read, as the tied card says it. -/
import Derived.Test.YtodofpjdcongnaaDoorSignReader
import Derived.Test.YtodofpjdcongnaaDoorTie
import Derived.Test.YtodofpjdcongnaaDoorCards
import Derived.SevenTiedAt
namespace Go.Proofs.YtodofpjdcongnaaDoor
open Go

theorem fnSignReader_card : Rows.FnSignReaderCardSaid :=
  Claim7.holds_tied_plain_at .later [] [.sentinel, .sentinel, .sentinel] true (true, "610b8f97be3c77f62bb191999b1658618e4c1534b58d27a655c35adef273a090") true
    fnSignReader_holds (fun _ h => by cases h) (by kernel_rfl) (fun _ h => by cases h) fnSignReader_row_tie rfl ⟨rfl, rfl⟩ (by kernel_rfl) rfl
    (fun f fn hf hfn => by
      obtain rfl : f = 6 := Option.some.inj ((show Tryd.prog.funcNamed "loop.example/pub-g01470/laws.FnSignReader" = some 6 by kernel_rfl).symm.trans hf) |>.symm
      obtain rfl : fn = Tryd.f6 := (Option.some.inj (Tryd.func6.symm.trans hfn)).symm
      exact ⟨by kernel_rfl, fun j t ht => by
        rw [Tryd.params6] at ht
        have h3 : t = 22 ∨ t = 9 ∨ t = 2 ∨ t = 4 := by
          rcases j with _ | _ | _ | _ | _ | j
          · exact .inl (Option.some.inj ht).symm
          · exact .inr (.inl (Option.some.inj ht).symm)
          · exact .inr (.inr (.inl (Option.some.inj ht).symm))
          · exact .inr (.inr (.inl (Option.some.inj ht).symm))
          · exact .inr (.inr (.inr (Option.some.inj ht).symm))
          · simp at ht
        rcases h3 with rfl | rfl | rfl | rfl
        · exact (show Tryd.prog.wantsStandIn 22 = false by kernel_rfl)
        · exact (show Tryd.prog.wantsStandIn 9 = false by kernel_rfl)
        · exact (show Tryd.prog.wantsStandIn 2 = false by kernel_rfl)
        · exact (show Tryd.prog.wantsStandIn 4 = false by kernel_rfl)⟩)
    (by kernel_rfl)
end Go.Proofs.YtodofpjdcongnaaDoor


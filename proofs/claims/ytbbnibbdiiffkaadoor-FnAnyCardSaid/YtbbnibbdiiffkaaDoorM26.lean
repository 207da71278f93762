/- FnAny: any bytes, with any dictionary, in reads of whatever sizes, are read as RFC 1951 tells, where it leaves nothing open. The tied card holds: for every input the law returns true and each argument reads behind the call as it read before. Conditions: io.EOF, io.ErrUnexpectedEOF, io.ErrShortBuffer and codeOrder start as the program's text lays them (the card ties them). -/
import Derived.SevenTiedAt
import Derived.Test.YtbbnibbdiiffkaaDoorTie
import Derived.Test.YtbbnibbdiiffkaaDoorCards
import Derived.Test.YtbbnibbdiiffkaaDoorM25

/- FnAny: any bytes, with any dictionary, in reads of whatever sizes, are read as RFC 1951 tells, where it leaves nothing open. The tied card holds: for every input the law returns true and each argument reads behind the call as it read before. Conditions: io.EOF, io.ErrUnexpectedEOF, io.ErrShortBuffer and codeOrder start as the program's text lays them (the card ties them). -/
namespace Go.Proofs.YtbbnibbdiiffkaaDoor
open Go

theorem fnAnyCard_holds : Rows.FnAnyCardSaid :=
  Claim7.holds_tied_plain_at .later [] [.sentinel, .sentinel, .sentinel, .data] true (true, "f98948014e13a67678ca0f88961a45487c9dfbd280ce8b290036215e24d3218b") true
    fnAny_holds (fun _ h => by cases h) (by kernel_rfl) (fun _ h => by cases h) fnAny_row_tie rfl ⟨rfl, rfl⟩ (by kernel_rfl) rfl
    (fun f fn hf hfn => by
      obtain rfl : f = 3 := Option.some.inj ((show Tryd.prog.funcNamed "loop.example/pub-flatestreams/laws.FnAny" = some 3 by kernel_rfl).symm.trans hf) |>.symm
      obtain rfl : fn = Tryd.f3 := (Option.some.inj (Tryd.func3.symm.trans hfn)).symm
      exact ⟨by kernel_rfl, fun j t ht => by
        rw [Tryd.params3] at ht
        have h3 : t = 22 ∨ t = 23 := by
          rcases j with _ | _ | _ | j
          · exact .inl (by simpa using ht.symm)
          · exact .inl (by simpa using ht.symm)
          · exact .inr (by simpa using ht.symm)
          · simp at ht
        rcases h3 with rfl | rfl
        · exact (show Tryd.prog.wantsStandIn 22 = false by kernel_rfl)
        · exact (show Tryd.prog.wantsStandIn 23 = false by kernel_rfl)⟩)
    (by kernel_rfl)
#print axioms fnAnyCard_holds
end Go.Proofs.YtbbnibbdiiffkaaDoor

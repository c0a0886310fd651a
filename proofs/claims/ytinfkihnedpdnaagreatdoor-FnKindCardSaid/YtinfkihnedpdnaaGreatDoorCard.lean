/- The tied card of FnKind: the row's proof and the given tie, closed by the builder's one call. No condition beyond the card's own. -/
import Derived.Test.YtinfkihnedpdnaaGreatDoorRows
import Derived.Test.YtinfkihnedpdnaaGreatDoorCards
import Derived.Test.YtinfkihnedpdnaaGreatDoorTie
import Derived.Test.YtinfkihnedpdnaaGreatDoorRowOf
import Derived.SevenTiedAt
namespace Go.Proofs.YtinfkihnedpdnaaGreatDoor
open Go

theorem fnKind_card : Rows.FnKindCardSaid :=
  Claim7.holds_tied_plain_at .later [] [.handle, .sentinel, .sentinel, .sentinel, .sentinel, .data, .sentinel, .sentinel, .data, .data] true (true, "924badbe8d4d140e898523b9d7d1b0be1aa46275bb27e2265582ed5bf73cb845") true
    fnKind_said (fun _ h => by cases h) (by kernel_rfl) (fun _ h => by cases h) fnKind_row_tie rfl ⟨rfl, rfl⟩ (by kernel_rfl) rfl
    (fun f fn hf hfn => by
      obtain rfl : f = 3 := Option.some.inj ((show Tryz.prog.funcNamed "loop.example/pub-g03440/laws.FnKind" = some 3 by kernel_rfl).symm.trans hf) |>.symm
      obtain rfl : fn = Tryz.f3 := (Option.some.inj (Tryz.func3.symm.trans hfn)).symm
      exact ⟨by kernel_rfl, fun j t ht => by
        rw [Tryz.params3] at ht
        have hm : t ∈ [5, 5, 5, 5] := by simpa using Array.mem_of_getElem? ht
        have hall : ([5, 5, 5, 5].all fun u => !Tryz.prog.wantsStandIn u) = true := by kernel_rfl
        exact (show Tryz.prog.wantsStandIn t = false by simpa using List.all_eq_true.1 hall t hm)⟩)
    (by kernel_rfl)
#print axioms fnKind_card
end Go.Proofs.YtinfkihnedpdnaaGreatDoor

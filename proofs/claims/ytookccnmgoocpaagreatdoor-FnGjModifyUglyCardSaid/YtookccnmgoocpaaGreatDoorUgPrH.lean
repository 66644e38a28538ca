/- pretty's full printing of a value: the walk of all. -/
import Derived.Test.YtookccnmgoocpaaGreatDoorUgPrE
import Derived.Test.YtookccnmgoocpaaGreatDoorUgPrF
import Derived.Test.YtookccnmgoocpaaGreatDoorUgPrG
namespace Go.Proofs.YtookccnmgoocpaaGreatDoor.PTwo
open Go.RowKit Go.Proofs.YtookccnmgoocpaaGreatDoorW.PrintWords Go.Proofs.YtookccnmgoocpaaGreatDoorW.PrintLast Go.Proofs.YtookccnmgoocpaaGreatDoorW.PrintMore
attribute [local go_sem] max2_int min2_int max_two min_two max_three min_three max_four min_four   -- for this text's walks alone
set_option linter.unusedVariables false
set_option linter.unusedSimpArgs false
theorem full_all : ∀ k, FullAnyC k ∧ FullArrC k ∧ FullObjC k := by
  intro k
  induction k using Nat.strongRecOn with
  | _ k ih => exact ⟨fullAny_step k (fun m hm => (ih m hm).2), fullArr_step k (fun m hm => (ih m hm).1), fullObj_step k (fun m hm => (ih m hm).1)⟩
end Go.Proofs.YtookccnmgoocpaaGreatDoor.PTwo

/- The words that the package gives for the states of transactions are those that the reference lists, in order; there is no condition. -/
import Derived.Test.YtmgnfbbgjahnhaaPFnTransactionStateWordsx1
namespace Go.Proofs.Ytmgnfbbgjahnhaa.Pure
open Go.RowKit Go.Proofs.Ytmgnfbbgjahnhaa.PFnTransactionStateWords Go.Proofs.YtmgnfbbgjahnhaaW.PrintWords Go.Proofs.YtmgnfbbgjahnhaaW.PrintLast

theorem FnTransactionStateWords : laws_FnTransactionStateWords.Pure := ⟨100, by kernel_rfl⟩

end Go.Proofs.Ytmgnfbbgjahnhaa.Pure

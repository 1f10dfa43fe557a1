/- The walk of the law FnTimeNumbers: the call returns true, and nothing that was there is written. -/
import Derived.Test.YtbblgpgjgkmcbaaJff
namespace Go.Proofs.Ytbblgpgjgkmcbaa.Wk
open Go.RowKit Go.Proofs.Ytbblgpgjgkmcbaa.PJal Go.Proofs.YtbblgpgjgkmcbaaW.PrintWords Go.Proofs.YtbblgpgjgkmcbaaW.PrintLast
theorem FnTimeNumbers (y mo d h mi s n : Int) (w : World) :
    Calls Try.prog 6 #[.agg #[.int .i64 y, .int .i64 mo, .int .i64 d, .int .i64 h, .int .i64 mi, .int .i64 s, .int .i64 n]] w fun e w' => e = .returned (.bool true) ∧ Below w.heap.size w w' := by
  obtain ⟨k, hk⟩ := Jf.FnTimeNumbers y mo d h mi s n
  exact laws_FnTimeNumbers.calls k y mo d h mi s n true w hk
end Go.Proofs.Ytbblgpgjgkmcbaa.Wk

/- The walks of the laws FnMadeTime and FnJulianDate: the calls return true, and nothing that was there is written. -/
import Derived.Test.YtbblgpgjgkmcbaaJfd
namespace Go.Proofs.Ytbblgpgjgkmcbaa.Wk
open Go.RowKit Go.Proofs.Ytbblgpgjgkmcbaa.PJal Go.Proofs.YtbblgpgjgkmcbaaW.PrintWords Go.Proofs.YtbblgpgjgkmcbaaW.PrintLast
theorem FnMadeTime (y mo d h mi s n : Int) (w : World) :
    Calls Try.prog 3 #[.agg #[.int .i64 y, .int .i64 mo, .int .i64 d, .int .i64 h, .int .i64 mi, .int .i64 s, .int .i64 n]] w fun e w' => e = .returned (.bool true) ∧ Below w.heap.size w w' := by
  obtain ⟨k, hk⟩ := Jf.FnMadeTime y mo d h mi s n
  exact laws_FnMadeTime.calls k y mo d h mi s n true w hk
theorem FnJulianDate (a : Int) (w : World) : Calls Try.prog 4 #[.int .i64 a] w fun e w' => e = .returned (.bool true) ∧ Below w.heap.size w w' := by
  obtain ⟨k, hk⟩ := Jf.FnJulianDate a
  exact laws_FnJulianDate.calls k a true w hk
end Go.Proofs.Ytbblgpgjgkmcbaa.Wk

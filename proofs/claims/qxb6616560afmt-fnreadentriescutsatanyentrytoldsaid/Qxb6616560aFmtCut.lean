import Derived.Test.Qxb6616560aFmtCutA
import Derived.Test.Qxb6616560aFmtCutB
import Derived.Test.Qxb6616560aFmtCutC
namespace Go.Proofs.Qxb6616560aFmt
open Go.RowKit Go.Extern.Stop Go.Stop Go.Extern

theorem cut_main (F : Interp) (v : Value) (l : List UInt8) (x y z : Nat) (w : World) (hF : F.answers w.tape) (hv : In w v l) (hl : l.length ≤ 1048576) (hx : x ≤ 65536) (hy : y ≤ x) (hz : z ≤ 9223372036854775807) :
    Calls Tryf.prog 4 #[v, .int .i64 x, .int .i64 y, .int .i64 z] w fun e w' => e = .returned (.bool true) ∧ Below w.heap.size w w' := by
  by_cases h1 : (Pl.run z y l 0).2 = none
  · exact cut_A F v l x y z w hF hv hl hx hy hz h1
  by_cases h2 : (Pl.run z x l 0).2 = none
  · exact cut_B F v l x y z w hF hv hl hx hy hz h1 h2
  · exact cut_C F v l x y z w hF hv hl hx hy hz h2
end Go.Proofs.Qxb6616560aFmt

/- Two results, up to equal numbers. -/
import Derived.Test.YtkkkdcfidoecnaaT3
namespace Go.Proofs.Ytkkkdcfidoecnaa
open Go.RowKit
theorem ret_two {a b c d : Int} (h : a = c) (h2 : b = d) : Ending.returned (.tuple #[.int .i64 a, .int .i64 b]) = .returned (.tuple #[.int .i64 c, .int .i64 d]) := by rw [h, h2]
end Go.Proofs.Ytkkkdcfidoecnaa

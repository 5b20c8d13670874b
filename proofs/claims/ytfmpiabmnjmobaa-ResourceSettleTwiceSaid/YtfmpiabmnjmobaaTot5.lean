/- Layer 28: the reference's Totals and Settle; conversion back. -/
import Derived.Test.YtfmpiabmnjmobaaTot4
namespace Go.Proofs.Ytfmpiabmnjmobaa
open Go.RowKit

end Go.Proofs.Ytfmpiabmnjmobaa

/- Layer 28: the reference's Settle; conversion back. -/
import Derived.Test.YtfmpiabmnjmobaaTot5
namespace Go.Proofs.Ytfmpiabmnjmobaa
open Go.RowKit

end Go.Proofs.Ytfmpiabmnjmobaa

/- The tail of an owned row is cleared: 'clear(s[k:])'. No program in sight. -/
import Derived.Test.YtneihdahboilnaaGreatMg10
import Derived.Lib.SliceRun
namespace Go.Proofs.YtneihdahboilnaaGreat
open Go.RowKit

end Go.Proofs.YtneihdahboilnaaGreat

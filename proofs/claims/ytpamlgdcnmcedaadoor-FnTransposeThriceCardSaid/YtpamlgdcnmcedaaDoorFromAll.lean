/-
  impl.fromGo reads back every right value (of at most 10^9 parts and bytes).
-/
import Derived.Test.YtpamlgdcnmcedaaDoorMapFrom
namespace Go.Proofs.YtpamlgdcnmcedaaDoor
set_option linter.unusedVariables false
set_option linter.unusedSimpArgs false
open Go.RowKit

theorem mapFrom_all (m : Nat) (hm : m ≤ 1000000000) : MapFrom m := fun FG ks vs hgv hcnt hnb hris hlen hkz b n xs w lo B hown hbB hvs hB =>
  mapFromGo_any m FG ks vs hgv hcnt hm hnb hris hlen hkz b n xs w lo B hown hbB hvs hB
theorem from_all : FromGoUpTo 1000000000 := fromGo_upTo mapFrom_all 1000000000 (by omega)

end Go.Proofs.YtpamlgdcnmcedaaDoor

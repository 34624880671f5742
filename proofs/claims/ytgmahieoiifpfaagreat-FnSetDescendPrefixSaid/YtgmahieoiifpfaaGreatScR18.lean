/- Part 18 of what the proof rests on. -/
import Derived.Test.YtgmahieoiifpfaaGreatScR9
import Derived.Test.YtgmahieoiifpfaaGreatScR12
set_option linter.unusedSimpArgs false
set_option linter.unusedVariables false
namespace Go.Proofs.YtgmahieoiifpfaaGreat
open Go.RowKit
section
variable {a b : List (List EV)} (ha : LOk a) (hb : LOk b)
include ha hb
theorem Yp2 : PCall Tryz.prog 41 [.sl 1 24 (a.map pdP), .sl 1 24 (b.map pdP)] (.sl 1 24 ((Zef (uT (inT a) (inT b))).map pdP)) := Yhv ha.ok hb.ok ha.ln hb.ln ha.n hb.n
end
section
variable {a b : List (List EV)} (ha : LOk a) (hb : LOk b) {e : EV} (he : OPE (Zaz e))
include ha hb he
end
end Go.Proofs.YtgmahieoiifpfaaGreat

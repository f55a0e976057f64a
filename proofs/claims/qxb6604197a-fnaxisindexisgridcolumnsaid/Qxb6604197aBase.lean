/-
  Small laws that the walks over floats want: the store of a float; comparisons written out.
-/
import Derived.Test.Qxb6604197aRows
import Derived.Test.Qxb6604197aFlt
import Derived.WalkKit
import Derived.WalkSpells
import Derived.WalkLawsBesides
namespace Go.Proofs.Qxb6604197a

theorem run_store_float (P : Program) (w : World) (a : Addr) (m : Mode) (k : FloatKind) (x : Nat) : (store a (.float k x) m).run P w = stored P w a (.float k x) m := run_store P w a _ m rfl

end Go.Proofs.Qxb6604197a

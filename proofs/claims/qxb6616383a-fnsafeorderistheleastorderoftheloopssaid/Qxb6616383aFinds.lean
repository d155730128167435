/-
  findGroups does what is asked of it.
-/
import Derived.Test.Qxb6616383aBuilt
import Derived.Test.Qxb6616383aFind
namespace Go.Proofs.Qxb6616383a
theorem finds : Finds := fun w b NB n LD AD F D hb h4 h6 hD hDn hDl hn h1 h2 => groups_any w b NB n LD AD F D hb h4 h6 hD hDn hDl hn h1 h2
end Go.Proofs.Qxb6616383a

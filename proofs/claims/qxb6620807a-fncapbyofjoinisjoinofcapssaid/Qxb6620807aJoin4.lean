import Derived.Test.Qxb6620807aJoin3
import Derived.Test.Qxb6620807aJoinR
import Derived.Test.Qxb6620807aLaw
namespace Go.Proofs.Qxb6620807a
open Go.RowKit
set_option linter.unusedVariables false

theorem joinSpec : JoinRSpec := fun s t u v a b c d X Y w h1 h2 h3 => joinR_f s t u v a b c d X Y w h1 h2 h3

theorem joinC : JoinCSpec := by
  intro a b c d ts us N1 N2 w hN h1 h2
  cases us with
  | nil => exact join_nil a b c d ts N1 N2 w h1
  | cons u us =>
    cases ts with
    | nil => exact nil_join a b c d (u :: us) N1 N2 w (by simp) h2
    | cons t ts => exact join_two joinSpec a b c d (t :: ts) (u :: us) N1 N2 w hN (by simp) (by simp) h1 h2
end Go.Proofs.Qxb6620807a

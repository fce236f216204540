/- A part of the proof: what functions of the program do, step by step. -/
import Derived.Test.YtjfpcckdelocpaaDoorC3
import Derived.Test.YtjfpcckdelocpaaDoorY6
import Derived.Test.YtjfpcckdelocpaaDoorY8
set_option linter.unusedVariables false
set_option linter.unusedSimpArgs false
namespace Go.Proofs.Eng
open Go.RowKit
theorem flatG (a b c d e : Hp) (G1 G2 : List (Nat × List (Nat × Nat))) (x : Nat × List (Nat × Nat)) : ([a, b, c, d, (G1 ++ x :: G2).map sqB, e] : List Hp).flatten = ([a, b, c, d, G1.map sqB, [sqB x], G2.map sqB, e] : List Hp).flatten := by simp
end Go.Proofs.Eng

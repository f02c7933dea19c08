/-
  Functions of the translation as typed programs, and that each is its function's reading. Written by a program of ours (gen2.py). Conditions: none.
-/
import Derived.Test.YtlmiafbcgfegpaaNm
namespace Go.Proofs.Ytlmiafbcgfegpaa
open Go
set_option maxRecDepth 100000
set_option linter.unusedVariables false
end Go.Proofs.Ytlmiafbcgfegpaa

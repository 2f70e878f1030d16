/- The first law's return: its operations may be walked in the order of the text. -/
import Derived.Test.Qxb6614727aLex
namespace Go.Proofs.Qxb6614727a.fnOnlySplitsIntoPredicateAndNegation
open Go.RowKit
set_option linter.unusedVariables false

theorem ops_size : (opsOf (headOf (tailAt 14 (Try.f3.body.getD .skip)))).size = 86 := by kernel_rfl
theorem ops_sel : Region.noSelect (opsOf (headOf (tailAt 14 (Try.f3.body.getD .skip)))) = true := by kernel_rfl
theorem lex0 : (List.range' 0 10).all (lexStep (opsOf (headOf (tailAt 14 (Try.f3.body.getD .skip))))) = true := by kernel_rfl
theorem lex1 : (List.range' 10 10).all (lexStep (opsOf (headOf (tailAt 14 (Try.f3.body.getD .skip))))) = true := by kernel_rfl
theorem lex2 : (List.range' 20 10).all (lexStep (opsOf (headOf (tailAt 14 (Try.f3.body.getD .skip))))) = true := by kernel_rfl
theorem lex3 : (List.range' 30 10).all (lexStep (opsOf (headOf (tailAt 14 (Try.f3.body.getD .skip))))) = true := by kernel_rfl
theorem lex4 : (List.range' 40 10).all (lexStep (opsOf (headOf (tailAt 14 (Try.f3.body.getD .skip))))) = true := by kernel_rfl
theorem lex5 : (List.range' 50 10).all (lexStep (opsOf (headOf (tailAt 14 (Try.f3.body.getD .skip))))) = true := by kernel_rfl
theorem lex6 : (List.range' 60 10).all (lexStep (opsOf (headOf (tailAt 14 (Try.f3.body.getD .skip))))) = true := by kernel_rfl
theorem lex7 : (List.range' 70 10).all (lexStep (opsOf (headOf (tailAt 14 (Try.f3.body.getD .skip))))) = true := by kernel_rfl
theorem lex8 : (List.range' 80 6).all (lexStep (opsOf (headOf (tailAt 14 (Try.f3.body.getD .skip))))) = true := by kernel_rfl
theorem lexAll : Region.lexB .any (opsOf (headOf (tailAt 14 (Try.f3.body.getD .skip)))) = true := by
  refine lex_of _ ops_sel fun k hk => ?_
  rw [ops_size] at hk
  by_cases h0 : k < 10
  · exact of_all lex0 k (by omega) (by omega)
  by_cases h1 : k < 20
  · exact of_all lex1 k (by omega) (by omega)
  by_cases h2 : k < 30
  · exact of_all lex2 k (by omega) (by omega)
  by_cases h3 : k < 40
  · exact of_all lex3 k (by omega) (by omega)
  by_cases h4 : k < 50
  · exact of_all lex4 k (by omega) (by omega)
  by_cases h5 : k < 60
  · exact of_all lex5 k (by omega) (by omega)
  by_cases h6 : k < 70
  · exact of_all lex6 k (by omega) (by omega)
  by_cases h7 : k < 80
  · exact of_all lex7 k (by omega) (by omega)
  by_cases h8 : k < 86
  · exact of_all lex8 k (by omega) (by omega)
  exact absurd hk (by omega)
end Go.Proofs.Qxb6614727a.fnOnlySplitsIntoPredicateAndNegation

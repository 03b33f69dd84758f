import Derived.Test.Qxb6617989aDoorExp
import Derived.Test.Qxb6617989aDoorShelf
namespace Go.Proofs.Qxb6617989aDoor
open Go.RowKit

theorem appendInt_10 : AppendIntSaid := by
  intro B n i sv xs w h0 h1 hown hB hlim htab
  refine (Any.strconv_AppendInt_10 Tryd.lays176 B n i h0 h1 sv xs w hown hB hlim htab).mono ?_
  rintro e w' ⟨v', rfl, a, b, -⟩
  exact ⟨v', rfl, a, b⟩

/-- 'ZZAppendExponent', for every input that the laws let by. -/
theorem zz : ZZSaid := zz_any appendInt_10
end Go.Proofs.Qxb6617989aDoor

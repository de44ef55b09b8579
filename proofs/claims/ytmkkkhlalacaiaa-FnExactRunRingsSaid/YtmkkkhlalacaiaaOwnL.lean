/- The form of a slice that is owned. -/
import Derived.Test.YtmkkkhlalacaiaaRb
import Derived.Test.YtmkkkhlalacaiaaRr
namespace Go.Proofs.Ytmkkkhlalacaiaa
open Go.RowKit

theorem own_len {E : TypeId} {base : Nat} {w : World} {v : Value} {xs : List Value} (h : Own E base w v xs) : ∃ a c, v = .slice a xs.length c := by
  rcases h.form with ⟨rfl, rfl⟩ | ⟨g, cap, cur, rfl, _⟩
  · exact ⟨none, 0, rfl⟩
  · exact ⟨_, _, rfl⟩

end Go.Proofs.Ytmkkkhlalacaiaa

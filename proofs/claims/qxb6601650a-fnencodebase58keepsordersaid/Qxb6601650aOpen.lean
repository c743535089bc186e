/-
  What the rows' frames know of a byte slice, in this seat's words.
-/
import Derived.Test.Qxb6601650aKit
import Derived.OpenShut
namespace Go.Proofs.Qxb6601650a
open Go.RowKit
set_option linter.unusedVariables false

theorem row_view {w : World} {a : Option Addr} {len cap : Nat} {zs : List Int}
    (h : (a = none ∧ len = 0 ∧ cap = 0 ∧ zs = []) ∨ ∃ x, a = some x ∧ len ≤ cap ∧ cap ≤ maxLen ∧ zs.length = cap ∧ (∀ i, i < zs.length → w.cell? (x.add i) = some (.int .u8 (zs.getD i 0))) ∧ ∀ n ∈ zs, (Lit.int .u8 n).wf = true) :
    len ≤ maxLen ∧ (a = none → cap = 0) ∧ ∃ z : Nat → Nat, LX w a len z ∧ ∀ i, i < len → z i < 256 := by
  rcases h with ⟨rfl, rfl, rfl, rfl⟩ | ⟨x, rfl, h1, h2, h3, h4, h5⟩
  · exact ⟨Nat.zero_le _, fun _ => rfl, fun _ => 0, ⟨fun _ => rfl, fun x hx => by cases hx⟩, fun i hi => by omega⟩
  · have hb : ∀ i, i < zs.length → 0 ≤ zs.getD i 0 ∧ zs.getD i 0 ≤ 255 := fun i hi => by
      have hm : zs.getD i 0 ∈ zs := by
        rw [List.getD_eq_getElem?_getD, List.getElem?_eq_getElem hi]
        exact List.getElem_mem _
      exact bounds_u8 (h5 _ hm)
    refine ⟨by omega, fun h => (by cases h), fun i => (zs.getD i 0).toNat, ⟨fun h => (by cases h), fun y hy i hi => ?_⟩, fun i hi => ?_⟩
    · cases hy
      rw [h4 i (by omega), Int.toNat_of_nonneg (hb i (by omega)).1]
    · have := hb i (by omega)
      dsimp only
      omega
end Go.Proofs.Qxb6601650a

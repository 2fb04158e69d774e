import Derived.Test.Qxb6603245aNib
namespace Go.Proofs.Qxb6603245a.imsi
open Go.ChangeShapes Go.WideShapes Go.ChangeAt Go.RowKit

/-- An array of eight bytes by value, opened: its cells are eight numbers, each a byte. -/
theorem open_bytes8 {H : Type} {enc : TypeId × Value → H} {P : Program} {w : World} {base : Nat} {spare : Nat → Bool} {held : Bool} {fuel : Nat} {t e : TypeId} {l : List Value} {x : DataW H × List MemPlace}
    (ht : P.underlying t = some (.array 8 e)) (he : P.underlying e = some (.int .u8)) (hce : P.cellsOf e = 1) (hl : l.length = 8) (h : DataW.trod enc P w base spare held fuel t l = some x) :
    ∃ zs : List Int, l = zs.map (Value.int .u8) ∧ Eight zs := by
  obtain ⟨xs, m, _, _, _, hx, hall⟩ := DataW.trod_array ht h
  have key : ∀ i, i < 8 → ∃ n, l[i]? = some (.int .u8 n) ∧ (Lit.int .u8 n).wf = true := by
    intro i hi
    have h1 := hall i hi
    rw [hce, Nat.mul_one, List.getElem?_eq_getElem (by omega)] at h1
    obtain ⟨n, hn, _, hw⟩ := DataW.trod_int he h1
    have h2 := congrArg (fun q : List Value => q[0]?) hn
    simp [List.getElem?_drop] at h2
    exact ⟨n, h2, hw⟩
  refine ⟨l.map intOf, ?_, ?_, ?_⟩
  · apply List.ext_getElem?
    intro i
    by_cases hi : i < 8
    · obtain ⟨n, hn, _⟩ := key i hi
      simp [hn, intOf]
    · simp [List.getElem?_eq_none (by omega : l.length ≤ i)]
  · simpa using hl
  · intro j
    by_cases hj : j < 8
    · obtain ⟨n, hn, hw⟩ := key j hj
      have hb := bounds_u8 hw
      simp only [List.getD, List.getElem?_map, hn, Option.map_some, intOf, Option.getD_some]
      exact hb
    · simp [List.getD, List.getElem?_eq_none (by omega : l.length ≤ j)]
end Go.Proofs.Qxb6603245a.imsi

import Derived.Test.Qxb6602835aHeadRead
namespace Go.Proofs.Qxb6602835a.head
open Go.ChangeShapes Go.WideShapes Go.ChangeAt Go.RowKit

/-- The slice value 'ao, n, c' leads to the cells xs. -/
def Lies (w : World) (ao : Option Addr) (n c : Nat) (xs : List Value) : Prop :=
  Plain n xs ∧ (ao = none → n = 0 ∧ c = 0) ∧ ∀ ad, ao = some ad → ∀ j u, xs[j]? = some u → w.cell? (ad.add j) = some u

theorem block_add (ad : Addr) (j : Nat) : (ad.add j).block = ad.block := by
  unfold Addr.add
  split <;> rfl

theorem Lies.below {w w' : World} {ao : Option Addr} {n c : Nat} {xs : List Value} (h : Lies w ao n c xs) (hb : Below w.heap.size w w') : Lies w' ao n c xs := by
  refine ⟨h.1, h.2.1, fun ad ha j u hu => ?_⟩
  have hc := h.2.2 ad ha j u hu
  exact (hb.cell (World.block_lt_of_cell? w _ hc)).trans hc

theorem Lies.cells {w : World} {ao : Option Addr} {n c : Nat} {xs : List Value} (h : Lies w ao n c xs) : ∀ ad, ao = some ad → ∀ j u, xs[j]? = some u → w.cell? (ad.add j) = some u := h.2.2

/-- A row that the call has just laid. -/
theorem Lies.laid (w : World) (bs : List Int) :
    Lies (w.alloc (.cells (bs.map (Value.int .u8)).toArray 5)) (some ⟨w.heap.size, 0, none⟩) bs.length bs.length (bs.map (Value.int .u8)) := by
  refine ⟨⟨by simp, ints_oneCell _ _⟩, fun h => (by cases h), fun ad ha j u hu => ?_⟩
  cases ha
  rw [add_plain, cell_of_row _ w.heap.size (0 + j) (bs.map (Value.int .u8)).toArray 5 (0, 0) (heap_alloc_new w _)]
  simpa using hu

theorem Lies.owns {w : World} {base g n cap : Nat} {xs : List Value} (h : w.ownsRow base 5 1 (.slice (some ⟨g, 0, none⟩) n cap) n xs) (hp : Plain n xs) : Lies w (some ⟨g, 0, none⟩) n cap xs := by
  refine ⟨hp, fun h => (by cases h), fun ad ha j u hu => ?_⟩
  cases ha
  have hj : j < xs.length := (List.getElem?_eq_some_iff.1 hu).1
  rw [add_plain, Nat.zero_add, h.cellAt j (by have := hp.1; omega)]
  exact hu

/-- cloneBytes, whatever the slice. -/
theorem clone_any (a : Option Addr) (len cap : Nat) (zs : List Int) (w : World) (hb : len ≤ 1048576)
    (h : (a = none ∧ len = 0 ∧ cap = 0 ∧ zs = []) ∨ ∃ x, a = some x ∧ len ≤ cap ∧ cap ≤ maxLen ∧ zs.length = cap ∧ (∀ i, i < zs.length → w.cell? (x.add i) = some (.int .u8 (zs.getD i 0))) ∧ ∀ n ∈ zs, (Lit.int .u8 n).wf = true) :
    Calls Try.prog 8 #[.slice a len cap] w fun e w' => ∃ (ao : Option Addr) (c : Nat) (xs : List Value), e = .returned (.slice ao len c) ∧ Lies w' ao len c xs ∧ Below w.heap.size w w' := by
  rcases h with ⟨rfl, rfl, rfl, rfl⟩ | ⟨x, rfl, hl, _, hz, hc, _⟩
  · refine (clone_nil w).mono ?_
    rintro e w' ⟨rfl, rfl⟩
    exact ⟨none, 0, [], rfl, ⟨⟨rfl, fun _ h => by cases h⟩, fun _ => ⟨rfl, rfl⟩, fun _ h => by cases h⟩, Below.refl _ _⟩
  · refine (clone_some x len cap zs w hl hb hz hc).mono ?_
    rintro e w' ⟨xs, rfl, hp, hown, hbel⟩
    exact ⟨_, len, xs, rfl, Lies.owns hown hp, hbel⟩

/-- zzBytes_..: may the law look at this tail? -/
theorem zzb_yes (m a d : Int) (ao : Option Addr) (len cap : Nat) (h : len ≤ 1048576) (w : World) :
    Calls Try.prog 7 #[.int .u8 m, .int .u64 a, .int .u8 d, .slice ao len cap] w fun e w' => e = .returned (.bool true) ∧ w = w' := by
  go_enter Try.func7, Try.ntmps7
  go_wp2
  go_ret
  exact ⟨rfl, rfl⟩
theorem zzb_no (m a d : Int) (ao : Option Addr) (len cap : Nat) (h : 1048576 < len) (w : World) :
    Calls Try.prog 7 #[.int .u8 m, .int .u64 a, .int .u8 d, .slice ao len cap] w fun e w' => e = .returned (.bool false) ∧ w = w' := by
  go_enter Try.func7, Try.ntmps7
  go_wp2
  go_ret
  exact ⟨rfl, rfl⟩
end Go.Proofs.Qxb6602835a.head

import Derived.Test.Qxb6603245aPack
import Derived.Test.Qxb6603245aStr
namespace Go.Proofs.Qxb6603245a.imsi
open Go.ChangeShapes Go.WideShapes Go.ChangeAt Go.RowKit

/-! ### charNibble -/
/-- Is c a character that String may write? -/
def okC (c : Int) : Prop := (48 ≤ c ∧ c ≤ 57) ∨ (97 ≤ c ∧ c ≤ 101)
/-- The half octet that it stands for. -/
def valC (c : Int) : Int := if c ≤ 57 then c - 48 else c - 87

theorem char_yes (c : Int) (w : World) (h : okC c) :
    Calls Try.prog 12 #[.int .u8 c] w fun e w' => e = .returned (.tuple #[.int .u8 (valC c), .bool true]) ∧ w = w' := by
  rcases h with ⟨h1, h2⟩ | ⟨h1, h2⟩
  · have hv : valC c = c - 48 := by unfold valC; rw [if_pos h2]
    rw [hv]
    go_enter Try.func12, Try.ntmps12
    go_wp2
    go_ret2
    exact ⟨rfl, rfl⟩
  · have hv : valC c = c - 97 + 10 := by unfold valC; rw [if_neg (by omega)]; omega
    rw [hv]
    go_enter Try.func12, Try.ntmps12
    go_wp2
    go_ret2
    exact ⟨rfl, rfl⟩
theorem char_yes_at (c d : Int) (w : World) (h : okC c) (hd : valC c = d) :
    Calls Try.prog 12 #[.int .u8 c] w fun e w' => e = .returned (.tuple #[.int .u8 d, .bool true]) ∧ w = w' := by
  rw [← hd]; exact char_yes c w h
theorem char_no (c : Int) (w : World) (h : ¬ okC c) :
    Calls Try.prog 12 #[.int .u8 c] w fun e w' => e = .returned (.tuple #[.int .u8 0, .bool false]) ∧ w = w' := by
  have h' : c < 48 ∨ (57 < c ∧ c < 97) ∨ 101 < c := by unfold okC at h; omega
  clear h
  rcases h' with h | ⟨h1, h2⟩ | h
  · go_enter Try.func12, Try.ntmps12
    go_wp2
    go_ret2
    exact ⟨rfl, rfl⟩
  · go_enter Try.func12, Try.ntmps12
    go_wp2
    go_ret2
    exact ⟨rfl, rfl⟩
  · go_enter Try.func12, Try.ntmps12
    go_wp2
    go_ret2
    exact ⟨rfl, rfl⟩
theorem val_bd {c : Int} (h : okC c) : 0 ≤ valC c ∧ valC c ≤ 14 := by
  unfold okC at h; unfold valC; split <;> omega
theorem chr_val {c : Int} (h : okC c) : chr (valC c) = c := by
  unfold okC at h; unfold valC chr; split <;> split <;> omega
theorem ok_chr {d : Int} (h0 : 0 ≤ d) (h1 : d ≤ 14) : okC (chr d) := by
  unfold okC chr; split <;> omega
theorem val_chr {d : Int} (h0 : 0 ≤ d) (h1 : d ≤ 14) : valC (chr d) = d := by
  unfold valC chr; split <;> split <;> omega

/-! ### An array variable of sixteen octets, filled cell by cell -/
/-- Block g holds the octets ns. -/
def Holds16 (wr : World) (g : Nat) (ns : List Int) : Prop := ns.length = 16 ∧ wr.heap[g]? = some (.cells (bytesA ns) 30)
theorem Holds16.cell {wr : World} {g : Nat} {ns : List Int} (h : Holds16 wr g ns) (k : Nat) (hk : k < 16) : wr.cell? ⟨g, k, none⟩ = some (.int .u8 (ns.getD k 0)) := by
  rw [cell_of_row _ _ _ _ _ _ h.2]; exact bytesA_at ns k (by rw [h.1]; exact hk)
theorem Holds16.free {wr : World} {g : Nat} {ns : List Int} (h : Holds16 wr g ns) (k : Nat) : wr.frozen? ⟨g, k, none⟩ = false := frozen_of_row _ _ _ _ _ h.2
theorem Holds16.lt {wr : World} {g : Nat} {ns : List Int} (h : Holds16 wr g ns) : g < wr.heap.size := by
  rcases Nat.lt_or_ge g wr.heap.size with h' | h'
  · exact h'
  · have := h.2; rw [Array.getElem?_eq_none h'] at this; cases this
theorem Holds16.set {wr : World} {g : Nat} {ns : List Int} (h : Holds16 wr g ns) (k : Nat) (x : Int) : Holds16 (wr.setCell ⟨g, k, none⟩ (.int .u8 x)) g (ns.set k x) :=
  ⟨by simpa using h.1, by rw [heap_setCell_same _ _ _ _ _ _ h.2, bytesA_set]⟩
theorem Holds16.other {wr : World} {g : Nat} {ns : List Int} (h : Holds16 wr g ns) (a : Addr) (v : Value) (hne : g ≠ a.block) : Holds16 (wr.setCell a v) g ns :=
  ⟨h.1, by rw [heap_setCell_other _ _ _ _ hne]; exact h.2⟩
theorem Holds16.alloc {wr : World} {g : Nat} {ns : List Int} (h : Holds16 wr g ns) (o : Obj) : Holds16 (wr.alloc o) g ns :=
  ⟨h.1, by rw [Below.heap_alloc _ _ _ h.lt]; exact h.2⟩
theorem Holds16.below {wr w' : World} {g : Nat} {ns : List Int} (h : Holds16 wr g ns) (hb : Below wr.heap.size wr w') : Holds16 w' g ns :=
  ⟨h.1, by rw [hb.block _ h.lt]; exact h.2⟩
theorem info30 : (Try.prog.info? 30).map (·.size) = some 16 := by kernel_rfl
theorem Holds16.info {wr : World} {g : Nat} {ns : List Int} (h : Holds16 wr g ns) : (Try.prog.info? 30).map (·.size) = some (bytesA ns).size := by
  rw [size_bytesA, h.1]; exact info30

/-- f at the first k places, the filler behind. -/
def canon (f : Nat → Int) (k : Nat) : List Int := (List.range 16).map fun j => if j < k then f j else 15
theorem canon_getD (f : Nat → Int) (k j : Nat) (hj : j < 16) : (canon f k).getD j 0 = if j < k then f j else 15 := by
  simp [canon, List.getD, List.getElem?_range hj]
theorem canon_length (f : Nat → Int) (k : Nat) : (canon f k).length = 16 := by simp [canon]
theorem canon_set (f : Nat → Int) (k : Nat) (hk : k < 16) : (canon f k).set k (f k) = canon f (k + 1) := by
  apply List.ext_getElem?
  intro j
  by_cases hj : j < 16
  · by_cases e : j = k
    · subst e
      simp [canon, hj]
    · have e1 : (j < k + 1) = (j < k) := by simp; omega
      simp [canon, hj, Ne.symm e, e1]
  · simp [canon, hj]
theorem list_ext16 {us vs : List Int} (ha : us.length = 16) (hb : vs.length = 16) (h : ∀ j, j < 16 → us.getD j 0 = vs.getD j 0) : us = vs := by
  apply List.ext_getElem?
  intro j
  by_cases hj : j < 16
  · have := h j hj
    simp only [List.getD, List.getElem?_eq_getElem (by omega : j < us.length), List.getElem?_eq_getElem (by omega : j < vs.length), Option.getD_some] at this
    rw [List.getElem?_eq_getElem (by omega : j < us.length), List.getElem?_eq_getElem (by omega : j < vs.length), this]
  · rw [List.getElem?_eq_none (by omega), List.getElem?_eq_none (by omega)]
/-- Sixteen fillers, written one by one. -/
theorem set_fill {ns : List Int} {k : Nat} (h : ns.length = 16) (hall : ∀ j, j < k → ns.getD j 0 = 15) (hk : k < 16) : ∀ j, j < k + 1 → (ns.set k 15).getD j 0 = 15 := by
  intro j hj
  by_cases e : j = k
  · subst e; simp [List.getD, h, hk]
  · have := hall j (by omega)
    simpa [List.getD, List.getElem?_set, Ne.symm e] using this
theorem all_fill {ns : List Int} (f : Nat → Int) (h : ns.length = 16) (hall : ∀ j, j < 16 → ns.getD j 0 = 15) : ns = canon f 0 :=
  list_ext16 h (canon_length _ _) fun j hj => by rw [hall j hj, canon_getD _ _ _ hj]; simp

/-! ### Packing and reading back -/
theorem sixteen_canon {f : Nat → Int} {k : Nat} (h : ∀ j, j < k → 0 ≤ f j ∧ f j ≤ 15) : Sixteen (canon f k) := by
  refine ⟨canon_length _ _, fun j => ?_⟩
  by_cases hj : j < 16
  · rw [canon_getD _ _ _ hj]
    split
    · exact h j (by assumption)
    · omega
  · have : (canon f k).getD j 0 = 0 := by simp [List.getD, List.getElem?_eq_none (by rw [canon_length]; omega : (canon f k).length ≤ j)]
    omega
theorem packL_getD (ns : List Int) (j : Nat) (hj : j < 8) : (packL ns).getD j 0 = pk ns j := by
  simp [packL, List.getD, List.getElem?_range hj]
theorem eight_pack {ns : List Int} (h : Sixteen ns) : Eight (packL ns) := by
  refine ⟨by simp [packL], fun j => ?_⟩
  by_cases hj : j < 8
  · rw [packL_getD _ _ hj]
    have a := h.2 (2 * j)
    have b := h.2 (2 * j + 1)
    unfold pk
    omega
  · have : (packL ns).getD j 0 = 0 := by simp [List.getD, packL, hj]
    omega
theorem nib_pack {ns : List Int} (h : Sixteen ns) (j : Nat) (hj : j < 16) : nib (packL ns) j = ns.getD j 0 := by
  have a := h.2 (2 * (j / 2))
  have b := h.2 (2 * (j / 2) + 1)
  unfold nib
  rw [packL_getD _ _ (by omega)]
  unfold pk
  split
  · have e : 2 * (j / 2) = j := by omega
    rw [e] at a b ⊢
    omega
  · have e : 2 * (j / 2) + 1 = j := by omega
    rw [e] at b ⊢
    omega
end Go.Proofs.Qxb6603245a.imsi

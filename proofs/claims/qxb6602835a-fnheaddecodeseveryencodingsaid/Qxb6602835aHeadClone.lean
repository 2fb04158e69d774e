import Derived.Test.Qxb6602835aRows
import Derived.WalkKit
import Derived.ProofKit
import Derived.OpenShut
import Derived.Lib.SliceRun
import Derived.WalkSpells
namespace Go.Proofs.Qxb6602835a.head
open Go.ChangeShapes Go.WideShapes Go.ChangeAt Go.RowKit

theorem info5 : (Try.prog.info? 5).map (fun i => (i.zero, i.size, i.bytes)) = some (some (.int .u8 0), 1, 1) := by kernel_rfl

/-- A row of one-cell values. -/
def Plain (n : Nat) (xs : List Value) : Prop := xs.length = n ∧ ∀ u ∈ xs, u.oneCell' = true

theorem Plain.made (n : Nat) : Plain n (madeCells #[Value.int .u8 0] n).toList := by
  rw [toList_madeCells_one]
  refine ⟨by simp, fun u hu => ?_⟩
  have := List.eq_of_mem_replicate hu
  subst this
  rfl

theorem Plain.set {n : Nat} {xs : List Value} (h : Plain n xs) (j : Nat) (x : Int) : Plain n (xs.set j (.int .u8 x)) := by
  refine ⟨by simpa using h.1, fun u hu => ?_⟩
  rcases List.mem_or_eq_of_mem_set hu with h1 | h1
  · exact h.2 u h1
  · subst h1; rfl

/-- cloneBytes at nil. -/
theorem clone_nil (w : World) : Calls Try.prog 8 #[.slice none 0 0] w fun e w' => e = .returned (.slice none 0 0) ∧ w = w' := by
  have q23 : ∀ (w : World) (a : Option Addr) (n c n' c' : Nat), (binOp .eql 23 (.slice a n c) (.slice none n' c')).run Try.prog w = .ok (.bool a.isNone) w := fun w a n c n' c' => Lib.run_eql_slice_nil w _ _ a n c n' c' Try.underlying23
  go_enter Try.func8, Try.ntmps8
  go_wp2
  go_ret
  exact ⟨rfl, rfl⟩

set_option maxHeartbeats 400000 in
/-- cloneBytes at a slice that is not nil: a new row of the same length. -/
theorem clone_some (x : Addr) (len cap : Nat) (zs : List Int) (w : World) (hl : len ≤ cap) (hb : len ≤ 1048576) (hz : zs.length = cap)
    (hc : ∀ i, i < zs.length → w.cell? (x.add i) = some (.int .u8 (zs.getD i 0))) :
    Calls Try.prog 8 #[.slice (some x) len cap] w fun e w' => ∃ xs : List Value, e = .returned (.slice (some ⟨w.heap.size, 0, none⟩) len len) ∧ Plain len xs ∧
      w'.ownsRow w.heap.size 5 1 (.slice (some ⟨w.heap.size, 0, none⟩) len len) len xs ∧ Below w.heap.size w w' := by
  have q23 : ∀ (w : World) (a : Option Addr) (n c n' c' : Nat), (binOp .eql 23 (.slice a n c) (.slice none n' c')).run Try.prog w = .ok (.bool a.isNone) w := fun w a n c n' c' => Lib.run_eql_slice_nil w _ _ a n c n' c' Try.underlying23
  obtain ⟨i0, hi, hz0, hz1, hz2⟩ := info_parts info5
  obtain ⟨b, off, spot⟩ := x
  have hcell : ∀ k, k < len → spot = none ∧ b < w.heap.size ∧ w.cell? ⟨b, off + k, none⟩ = some (.int .u8 (zs.getD k 0)) := by
    intro k hk
    have h := hc k (by omega)
    have hs : spot = none := by simpa [Addr.add] using World.cell?_spot (hc 0 (by omega))
    subst hs
    rw [add_plain] at h
    exact ⟨rfl, World.block_lt_of_cell? w _ h, h⟩
  clear hc
  go_enter Try.func8, Try.ntmps8
  go_wp2_with (at_make; refine wpList_make_full _ rfl _ _ 23 rfl w.heap.size 5 i0 (.int .u8 0) 1 Try.underlying23 hi hz0 hz1 _ _ _ _ len rfl rfl rfl rfl ?b2 ?b3 (Nat.le_refl _) ?_)
  case b2 => rw [hz2]; omega
  case b3 => unfold maxLen; omega
  intro w0 hown0 hgrow0
  go_wp2
  go_loopw [4] (fun i wr => ∃ (k : Nat) (xs : List Value), k ≤ len ∧ i = .int .i64 k ∧ Plain len xs ∧ wr.ownsRow w.heap.size 5 1 (.slice (some ⟨w.heap.size, 0, none⟩) len len) len xs ∧ Below w.heap.size w wr) (fun i _ => len - (intOf i).toNat)
  case atStart => exact ⟨0, _, Nat.zero_le _, rfl, Plain.made len, hown0, (Below.refl _ _).grown hgrow0 (Nat.le_refl _) (fun k h => by cases h)⟩
  case round =>
    obtain ⟨k, xs, hk, rfl, hpl, hown, hnx⟩ := hrel
    clear hown0 hgrow0
    by_cases hlt : k < len
    · obtain ⟨rfl, hbw, hck⟩ := hcell k hlt
      have hcr : wr.cell? ⟨b, off + k, none⟩ = some (.int .u8 (zs.getD k 0)) := (hnx.cell (by exact hbw)).trans hck
      have hfr : wr.frozen? ⟨w.heap.size, k, none⟩ = false := hown.frozenAt k
      have hkx : k < xs.length := by rw [hpl.1]; exact hlt
      have hcn : wr.cell? ⟨w.heap.size, k, none⟩ = some (xs[k]) := by rw [hown.cellAt k (by omega)]; exact List.getElem?_eq_getElem hkx
      obtain ⟨h1, h2⟩ := hown.stored k (.int .u8 (zs.getD k 0))
      have R : Plain len (xs.set k (.int .u8 (zs.getD k 0))) ∧ (wr.setCell ⟨w.heap.size, k, none⟩ (.int .u8 (zs.getD k 0))).ownsRow w.heap.size 5 1 (.slice (some ⟨w.heap.size, 0, none⟩) len len) len (xs.set k (.int .u8 (zs.getD k 0))) ∧ Below w.heap.size w (wr.setCell ⟨w.heap.size, k, none⟩ (.int .u8 (zs.getD k 0))) :=
        ⟨hpl.set k _, h1, hnx.setCell (Nat.le_refl _) _⟩
      clear h1 h2 hown hpl hck hcell
      go_wp2
      go_roundw
      case rel => exact ⟨k + 1, _, by omega, by go_num, R.1, by simpa [List.getD] using R.2.1, by simpa [List.getD] using R.2.2⟩
      case measure => simp [intOf]; omega
    · have he : k = len := by omega
      clear hcell
      go_wp2
      go_ret
      exact ⟨xs, rfl, hpl, hown, hnx⟩
end Go.Proofs.Qxb6602835a.head

import Derived.Test.Qxb6603245aStr
import Derived.Deep.RegionHeld3
namespace Go.Proofs.Qxb6603245a.imsi
open Go.ChangeShapes Go.WideShapes Go.ChangeAt Go.RowKit

theorem eight_list {zs : List Int} (h : Eight zs) : ∃ x0 x1 x2 x3 x4 x5 x6 x7, zs = [x0, x1, x2, x3, x4, x5, x6, x7] := by
  match zs, h.1 with
  | [x0, x1, x2, x3, x4, x5, x6, x7], _ => exact ⟨x0, x1, x2, x3, x4, x5, x6, x7, rfl⟩

/-- tbcdNibble at an array that is written out. -/
theorem nib_lit (x0 x1 x2 x3 x4 x5 x6 x7 : Int) (k : Nat) (w : World) (h : Eight [x0, x1, x2, x3, x4, x5, x6, x7]) (hk : k < 16) :
    Calls Try.prog 10 #[.agg #[.int .u8 x0, .int .u8 x1, .int .u8 x2, .int .u8 x3, .int .u8 x4, .int .u8 x5, .int .u8 x6, .int .u8 x7], .int .i64 k] w fun e w' => e = .returned (.int .u8 (nib [x0, x1, x2, x3, x4, x5, x6, x7] k)) ∧ w' = w.alloc (.cells #[.int .u8 x0, .int .u8 x1, .int .u8 x2, .int .u8 x3, .int .u8 x4, .int .u8 x5, .int .u8 x6, .int .u8 x7] 22) :=
  nib_any [x0, x1, x2, x3, x4, x5, x6, x7] k w h hk

theorem text_at {zs : List Int} (h : Eight zs) (n k : Nat) (hk : k < n) (hk' : k < (text zs n).size) : (((text zs n)[k]'hk').toNat : Int) = chr (nib zs k) := by
  have e : (text zs n)[k]'hk' = chB zs k := by
    have h1 : (text zs n).data[k]? = some (chB zs k) := by simp [text, hk]
    have h2 : (text zs n).data[k]? = some ((text zs n)[k]'hk') := Array.getElem?_eq_getElem hk'
    exact Option.some.inj (h2.symm.trans h1)
  rw [e]
  exact chB_toNat h k

set_option maxHeartbeats 1000000 in
theorem law_model (zs : List Int) (w : World) (h : Eight zs) :
    Calls Try.prog 3 #[.agg (bytesA zs)] w fun e w' => e = .returned (.bool true) ∧ Below w.heap.size w w' := by
  have HI : Hid ((Try.prog.info? 22).map (·.size) = some (bytesA zs).size) := info22' zs h
  have HB0 : Hid ((w.alloc (.cells (bytesA zs) 22)).heap[w.heap.size]? = some (.cells (bytesA zs) 22)) := heap_alloc_new w _
  go_enter Try.func3, Try.ntmps3
  go_wp2_with (refine wpList_load_guard (by rfl) 22 _ (by rfl) w.heap.size (by rfl) 22 _ _ _ HB0.out Try.underlying22 rfl HI.out ?_)
  refine (str_any zs _ h).mono ?_
  rintro e w1 ⟨n, rfl, hst, hb1⟩
  have hb1' : Below (w.heap.size + 1) (w.alloc (.cells (bytesA zs) 22)) w1 := hb1.mono (by simp)
  have HB1 : Hid (w1.heap[w.heap.size]? = some (.cells (bytesA zs) 22)) := by show w1.heap[w.heap.size]? = _; rw [hb1'.block _ (by omega)]; exact HB0.out
  clear HB0 hb1
  go_wp2_with (refine wpList_load_guard (by rfl) 22 _ (by rfl) w.heap.size (by rfl) 22 _ _ _ HB1.out Try.underlying22 rfl HI.out ?_)
  refine (before_any zs _ h).mono ?_
  rintro e w2 ⟨n', rfl, hst', hb2⟩
  have hn := hst'.uniq hst
  subst hn
  have hs1 : w.heap.size + 1 ≤ w1.heap.size := by have := hb1'.size; simpa using this
  have hb2' : Below (w.heap.size + 1) (w.alloc (.cells (bytesA zs) 22)) w2 := hb1'.trans (hb2.mono hs1)
  have h16 : n' ≤ 16 := hst.1
  clear HB1 hb2 hb1' hst hst'
  have hsz := size_text zs n'
  go_wp2
  go_loopw [5] (fun i wr => ∃ k : Nat, k ≤ n' ∧ i = .int .i64 k ∧ Below (w.heap.size + 1) (w.alloc (.cells (bytesA zs) 22)) wr) (fun i _ => n' - (intOf i).toNat)
  case atStart => exact ⟨0, Nat.zero_le _, rfl, hb2'⟩
  case round =>
    obtain ⟨k, hk, rfl, hbel⟩ := hrel
    have hs : w.heap.size + 1 ≤ wr.heap.size := by have := hbel.size; simpa using this
    have hbw : Below w.heap.size w wr := ((Below.refl _ _).alloc (Nat.le_refl _) _).trans (hbel.mono (by omega))
    have hbox : wr.heap[w.heap.size]? = some (.cells (bytesA zs) 22) := by rw [hbel.block _ (by omega)]; exact heap_alloc_new w _
    clear hb2'
    by_cases hlt : k < n'
    · obtain ⟨x0, x1, x2, x3, x4, x5, x6, x7, rfl⟩ := eight_list h
      have g0 : wr.cell? ⟨w.heap.size, 0, none⟩ = some (.int .u8 x0) := by rw [cell_of_row _ _ _ _ _ _ hbox]; rfl
      have g1 : wr.cell? ⟨w.heap.size, 1, none⟩ = some (.int .u8 x1) := by rw [cell_of_row _ _ _ _ _ _ hbox]; rfl
      have g2 : wr.cell? ⟨w.heap.size, 2, none⟩ = some (.int .u8 x2) := by rw [cell_of_row _ _ _ _ _ _ hbox]; rfl
      have g3 : wr.cell? ⟨w.heap.size, 3, none⟩ = some (.int .u8 x3) := by rw [cell_of_row _ _ _ _ _ _ hbox]; rfl
      have g4 : wr.cell? ⟨w.heap.size, 4, none⟩ = some (.int .u8 x4) := by rw [cell_of_row _ _ _ _ _ _ hbox]; rfl
      have g5 : wr.cell? ⟨w.heap.size, 5, none⟩ = some (.int .u8 x5) := by rw [cell_of_row _ _ _ _ _ _ hbox]; rfl
      have g6 : wr.cell? ⟨w.heap.size, 6, none⟩ = some (.int .u8 x6) := by rw [cell_of_row _ _ _ _ _ _ hbox]; rfl
      have g7 : wr.cell? ⟨w.heap.size, 7, none⟩ = some (.int .u8 x7) := by rw [cell_of_row _ _ _ _ _ _ hbox]; rfl
      have hks : (k : Int) < ((text [x0, x1, x2, x3, x4, x5, x6, x7] n').size : Int) := by rw [size_text]; omega
      have htx := text_at h n' k hlt (by rw [size_text]; exact hlt)
      have hnb := nib_bd h k
      clear hbox
      go_wp2
      go_region_held3 (fun w' => w'.cell? ⟨w.heap.size, 0, none⟩ = some (.int .u8 x0) ∧ w'.cell? ⟨w.heap.size, 1, none⟩ = some (.int .u8 x1) ∧ w'.cell? ⟨w.heap.size, 2, none⟩ = some (.int .u8 x2) ∧ w'.cell? ⟨w.heap.size, 3, none⟩ = some (.int .u8 x3) ∧ w'.cell? ⟨w.heap.size, 4, none⟩ = some (.int .u8 x4) ∧ w'.cell? ⟨w.heap.size, 5, none⟩ = some (.int .u8 x5) ∧ w'.cell? ⟨w.heap.size, 6, none⟩ = some (.int .u8 x6) ∧ w'.cell? ⟨w.heap.size, 7, none⟩ = some (.int .u8 x7)) (go_keep)
        (first | (go_at_call 10; refine (nib_lit x0 x1 x2 x3 x4 x5 x6 x7 k _ h (by omega)).mono ?_; rintro e w' ⟨rfl, rfl⟩) | (go_at_call 9; refine (chr_any _ _ hnb.1 hnb.2).mono ?_; rintro e w' ⟨rfl, rfl⟩))
      all_goals
        go_wp2
        go_roundw
        case rel => exact ⟨k + 1, by omega, by go_num, (hbel.alloc hs _).drew⟩
        case measure => simp [intOf]; omega
    · have he : k = n' := by omega
      go_wp2
      go_ret
      exact ⟨rfl, hbw⟩
end Go.Proofs.Qxb6603245a.imsi

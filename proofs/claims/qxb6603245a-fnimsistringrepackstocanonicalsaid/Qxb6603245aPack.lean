import Derived.Test.Qxb6603245aNib
import Derived.Deep.RegionHeld3
import Derived.Laws.Tables
import Derived.Laws.CopyOwn
namespace Go.Proofs.Qxb6603245a.imsi
open Go.ChangeShapes Go.WideShapes Go.ChangeAt Go.RowKit

/-- The j-th octet of the packed element. -/
def pk (ns : List Int) (j : Nat) : Int := ns.getD (2 * j) 0 + 16 * ns.getD (2 * j + 1) 0
def packL (ns : List Int) : List Int := (List.range 8).map (pk ns)
/-- Sixteen half octets. -/
def Sixteen (ns : List Int) : Prop := ns.length = 16 ∧ ∀ j, 0 ≤ ns.getD j 0 ∧ ns.getD j 0 ≤ 15

theorem bytesA_set (os : List Int) (k : Nat) (x : Int) : (bytesA os).setIfInBounds k (.int .u8 x) = bytesA (os.set k x) := by
  simp [bytesA, List.map_set]
theorem bytesA_one (os : List Int) : (bytesA os).all (·.oneCell') = true := by
  simp only [bytesA, List.all_toArray, List.all_map]
  induction os with
  | nil => rfl
  | cons a l ih => simp only [List.all_cons, ih, Bool.and_true]; rfl

theorem packL_of {ns os : List Int} (h8 : os.length = 8) (hall : ∀ j, j < 8 → os.getD j 0 = pk ns j) : os = packL ns := by
  apply List.ext_getElem?
  intro i
  by_cases hi : i < 8
  · have := hall i hi
    simp only [List.getD, List.getElem?_eq_getElem (by omega : i < os.length), Option.getD_some] at this
    simp [packL, List.getElem?_eq_getElem (by omega : i < os.length), this, List.getElem?_range hi]
  · simp [packL, List.getElem?_eq_none (by omega : os.length ≤ i), hi]

/-- What lies in memory in packNibbles's loop, after k rounds. -/
def Packing (w : World) (ns : List Int) (k : Nat) (wr : World) : Prop :=
  Below w.heap.size w wr ∧ w.heap.size + 3 ≤ wr.heap.size ∧ wr.heap[w.heap.size]? = some (.cells (bytesA ns) 30) ∧ wr.heap[w.heap.size + 1]? = some (.cells (bytesA (List.replicate 8 0)) 22) ∧
  ∃ os : List Int, os.length = 8 ∧ (∀ j, j < k → os.getD j 0 = pk ns j) ∧ wr.heap[w.heap.size + 1 + 1]? = some (.cells (bytesA os) 22)

theorem Packing.start (w : World) (ns : List Int) :
    Packing w ns 0 (((w.alloc (.cells (bytesA ns) 30)).alloc (.cells (bytesA (List.replicate 8 0)) 22)).alloc (.cells (bytesA (List.replicate 8 0)) 22)) := by
  refine ⟨(((Below.refl _ _).alloc (Nat.le_refl _) _).alloc (by simp) _).alloc (by simp; omega) _, by simp, ?_, ?_, List.replicate 8 0, by simp, fun j hj => by omega, ?_⟩
  · rw [Below.heap_alloc _ _ _ (by simp; omega), Below.heap_alloc _ _ _ (by simp), heap_alloc_new]
  · rw [Below.heap_alloc _ _ _ (by simp)]
    exact heap_alloc2_new w _ _
  · have e : w.heap.size + 1 + 1 = ((w.alloc (.cells (bytesA ns) 30)).alloc (.cells (bytesA (List.replicate 8 0)) 22)).heap.size := by simp
    rw [e, heap_alloc_new]

theorem Packing.step {w wr : World} {ns : List Int} {k : Nat} (h : Packing w ns k wr) (hk : k < 8) :
    Packing w ns (k + 1) (wr.setCell ⟨w.heap.size + 1 + 1, k, none⟩ (.int .u8 (pk ns k))) := by
  obtain ⟨hb, hs, h1, h2, os, h8, hall, h3⟩ := h
  refine ⟨hb.setCell (by simp; omega) _, by simpa using hs, ?_, ?_, os.set k (pk ns k), by simpa using h8, ?_, ?_⟩
  · rw [heap_setCell_other _ _ _ _ (by simp; omega)]; exact h1
  · rw [heap_setCell_other _ _ _ _ (by simp)]; exact h2
  · intro j hj
    by_cases e : j = k
    · subst e
      simp [List.getD, h8, hk]
    · have := hall j (by omega)
      simpa [List.getD, List.getElem?_set, e, Ne.symm e] using this
  · rw [heap_setCell_same _ _ _ _ _ _ h3, bytesA_set]

theorem Packing.drew {w wr : World} {ns : List Int} {k : Nat} (h : Packing w ns k wr) : Packing w ns k wr.drew :=
  ⟨h.1.drew, h.2⟩

set_option maxHeartbeats 1000000 in
/-- packNibbles. -/
theorem pack_any (ns : List Int) (w : World) (h : Sixteen ns) :
    Calls Try.prog 13 #[.agg (bytesA ns)] w fun e w' => e = .returned (.agg (bytesA (packL ns))) ∧ Below w.heap.size w w' := by
  go_enter Try.func13, Try.ntmps13
  go_wp2
  go_loopw [4] (fun i wr => ∃ k : Nat, k ≤ 8 ∧ i = .int .i64 k ∧ Packing w ns k wr) (fun i _ => 8 - (intOf i).toNat)
  case atStart => exact ⟨0, Nat.zero_le _, rfl, Packing.start w ns⟩
  case round =>
    obtain ⟨k, hk, rfl, hp⟩ := hrel
    by_cases hlt : k < 8
    · have hst := hp.step hlt
      obtain ⟨hb, hs, h1, h2, os, h8, hall, h3⟩ := hp
      obtain ⟨a, ha⟩ : ∃ a, a = ns.getD (2 * k) 0 := ⟨_, rfl⟩
      obtain ⟨b, hb'⟩ : ∃ b, b = ns.getD (2 * k + 1) 0 := ⟨_, rfl⟩
      have ba := h.2 (2 * k)
      have bb := h.2 (2 * k + 1)
      rw [← ha] at ba
      rw [← hb'] at bb
      obtain ⟨ba0, ba1⟩ := ba
      obtain ⟨bb0, bb1⟩ := bb
      have c0 : wr.cell? ⟨w.heap.size, 2 * k, none⟩ = some (.int .u8 a) := by rw [cell_of_row _ _ _ _ _ _ h1, ha]; exact bytesA_at ns _ (by rw [h.1]; omega)
      have c1 : wr.cell? ⟨w.heap.size, 2 * k + 1, none⟩ = some (.int .u8 b) := by rw [cell_of_row _ _ _ _ _ _ h1, hb']; exact bytesA_at ns _ (by rw [h.1]; omega)
      have c2 : wr.cell? ⟨w.heap.size + 1 + 1, k, none⟩ = some (.int .u8 (os.getD k 0)) := by rw [cell_of_row _ _ _ _ _ _ h3]; exact bytesA_at os _ (by rw [h8]; omega)
      have f2 : wr.frozen? ⟨w.heap.size + 1 + 1, k, none⟩ = false := frozen_of_row _ _ _ _ _ h3
      have ep : pk ns k = a + 16 * b := by unfold pk; rw [ha, hb']
      rw [ep] at hst
      have HP : Hid (Packing w ns (k + 1) (wr.setCell ⟨w.heap.size + 1 + 1, k, none⟩ (.int .u8 (a + 16 * b)))) := hst
      have i0 : (0 : Int) ≤ (k : Int) := by omega
      have i1 : (k : Int) < 8 := by omega
      have i2 : (0 : Int) ≤ 2 * (k : Int) := by omega
      have i3 : 2 * (k : Int) < 16 := by omega
      have i4 : (0 : Int) ≤ 2 * (k : Int) + 1 := by omega
      have i5 : 2 * (k : Int) + 1 < 16 := by omega
      have n1 : (2 * (k : Int)).toNat = 2 * k := by omega
      have n2 : (2 * (k : Int) + 1).toNat = 2 * k + 1 := by omega
      have q1 : IntKind.i64.wrap (2 * (k : Int)) = 2 * (k : Int) := by rw [IntKind.wrap_i64]; omega
      have q2 : IntKind.i64.wrap (2 * (k : Int) + 1) = 2 * (k : Int) + 1 := by rw [IntKind.wrap_i64]; omega
      have q3 : IntKind.u8.wrap (16 * b) = 16 * b := by rw [IntKind.wrap_u8]; omega
      have q4 : IntKind.u8.wrap (a + 16 * b) = a + 16 * b := by rw [IntKind.wrap_u8]; omega
      have S0 : Hid ((wr.setCell ⟨w.heap.size + 1 + 1, k, none⟩ (.int .u8 (a + 16 * b))).cell? ⟨w.heap.size, 2 * k, none⟩ = some (.int .u8 a)) := (World.cell?_of_block (heap_setCell_other _ _ _ _ (by simp; omega))).trans c0
      have S1 : Hid ((wr.setCell ⟨w.heap.size + 1 + 1, k, none⟩ (.int .u8 (a + 16 * b))).cell? ⟨w.heap.size, 2 * k + 1, none⟩ = some (.int .u8 b)) := (World.cell?_of_block (heap_setCell_other _ _ _ _ (by simp; omega))).trans c1
      clear hst hb h1 h2 h3 hall h8 ha hb' ep h
      go_wp2
      go_region_held3 (fun w' => w'.cell? ⟨w.heap.size, 2 * k, none⟩ = some (.int .u8 a) ∧ w'.cell? ⟨w.heap.size, 2 * k + 1, none⟩ = some (.int .u8 b)) (first | exact ⟨S0.out, S1.out⟩ | go_keep) (fail)
      all_goals
        go_wp2
        go_roundw
        case rel => exact ⟨k + 1, by omega, by go_num, HP.out.drew⟩
        case measure => simp [intOf]; omega
    · have he : k = 8 := by omega
      subst he
      obtain ⟨hb, hs, h1, h2, os, h8, hall, h3⟩ := hp
      have eo := packL_of h8 hall
      subst eo
      have HI : Hid ((Try.prog.info? 22).map (·.size) = some (bytesA (packL ns)).size) := by show (Try.prog.info? 22).map (·.size) = some (bytesA (packL ns)).size; rw [size_bytesA, h8]; exact info22
      have H2 : Hid (wr.heap[w.heap.size + 1]? = some (.cells (bytesA (List.replicate 8 0)) 22)) := h2
      have H3 : Hid (wr.heap[w.heap.size + 1 + 1]? = some (.cells (bytesA (packL ns)) 22)) := h3
      have HO : Hid ((bytesA (packL ns)).all (·.oneCell') = true) := bytesA_one _
      have HZ : Hid ((bytesA (List.replicate 8 0)).size = (bytesA (packL ns)).size) := by show (bytesA (List.replicate 8 0)).size = (bytesA (packL ns)).size; rw [size_bytesA, size_bytesA, h8]; rfl
      have HR : Hid ((wr.setRow (w.heap.size + 1) (bytesA (packL ns))).heap[w.heap.size + 1]? = some (.cells (bytesA (packL ns)) 22)) := setRow_heap _ _ _ _ _ _ h2
      clear h1 h2 h3 h8 hall
      go_wp2_with (first
        | (refine wpList_load_guard (by rfl) 22 _ (by rfl) (w.heap.size + 1 + 1) (by rfl) 22 _ _ _ H3.out Try.underlying22 rfl HI.out ?_)
        | (refine wpList_store_row rfl 22 _ _ (by rfl) (w.heap.size + 1) (bytesA (packL ns)) (by rfl) (by rfl) 22 (bytesA (List.replicate 8 0)) H2.out HI.out HZ.out HO.out ?_))
      exact bodyPost_ret (v := .agg (bytesA (packL ns))) (results_cell_row Try.results13 _ _ (w.heap.size + 1) 22 _ _ _ (by rfl) HR.out Try.underlying22 rfl HI.out) rfl ⟨rfl, below_setRow hb (by omega) _⟩
end Go.Proofs.Qxb6603245a.imsi

import Derived.Test.Qxb6603245aRows
import Derived.WalkKit
import Derived.ProofKit
import Derived.OpenShut
import Derived.LoopN
import Derived.WalkSmall
import Derived.WalkSpells
import Derived.Deep.DeepMust
namespace Go.Proofs.Qxb6603245a.imsi
open Go.ChangeShapes Go.WideShapes Go.ChangeAt Go.RowKit

/-- The cells of an array of bytes. -/
def bytesA (zs : List Int) : Array Value := (zs.map (Value.int .u8)).toArray
theorem size_bytesA (zs : List Int) : (bytesA zs).size = zs.length := by simp [bytesA]
theorem bytesA_at (zs : List Int) (j : Nat) (h : j < zs.length) : (bytesA zs)[j]? = some (.int .u8 (zs.getD j 0)) := by
  simp [bytesA, List.getElem?_eq_getElem h, List.getD]

/-- The k-th half octet. -/
def nib (zs : List Int) (k : Nat) : Int := if k % 2 = 0 then zs.getD (k / 2) 0 % 16 else zs.getD (k / 2) 0 / 16

/-- What the laws are told of an element: eight octets. -/
def Eight (zs : List Int) : Prop := zs.length = 8 ∧ ∀ j, 0 ≤ zs.getD j 0 ∧ zs.getD j 0 ≤ 255

theorem nib_bd {zs : List Int} (h : Eight zs) (k : Nat) : 0 ≤ nib zs k ∧ nib zs k ≤ 15 := by
  have := h.2 (k / 2)
  unfold nib
  split <;> omega

theorem ret_int {k : IntKind} {a b : Int} (h : a = b) : Ending.returned (.int k a) = .returned (.int k b) := by rw [h]

/-- tbcdNibble: it computes 'nib'; it lays one block (its parameter's box). -/
theorem nib_any (zs : List Int) (k : Nat) (w : World) (h : Eight zs) (hk : k < 16) :
    Calls Try.prog 10 #[.agg (bytesA zs), .int .i64 k] w fun e w' => e = .returned (.int .u8 (nib zs k)) ∧ w' = w.alloc (.cells (bytesA zs) 22) := by
  obtain ⟨z, hz⟩ : ∃ z, z = zs.getD (k / 2) 0 := ⟨_, rfl⟩
  have hb : 0 ≤ z ∧ z ≤ 255 := by rw [hz]; exact h.2 _
  obtain ⟨hb0, hb1⟩ := hb
  have hat : (bytesA zs)[k / 2]? = some (.int .u8 z) := by rw [hz]; exact bytesA_at zs _ (by rw [h.1]; omega)
  have hc : (w.alloc (.cells (bytesA zs) 22)).cell? ⟨w.heap.size, k / 2, none⟩ = some (.int .u8 z) := by rw [cell_of_row _ _ _ _ _ _ (heap_alloc_new w _)]; exact hat
  have HZ : Hid (z = zs.getD (k / 2) 0) := hz
  clear hz h
  by_cases hp : k % 2 = 0
  · have hpi : ((k : Int) % 2) = 0 := by omega
    go_enter Try.func10, Try.ntmps10
    go_wp2
    go_ret
    exact ⟨ret_int (by unfold nib; rw [if_pos hp, ← HZ.out]), rfl⟩
  · have hpi : ((k : Int) % 2) = 1 := by omega
    go_enter Try.func10, Try.ntmps10
    go_wp2
    go_ret
    exact ⟨ret_int (by unfold nib; rw [if_neg hp, ← HZ.out]), rfl⟩

/-- A half octet as a character. -/
def chr (d : Int) : Int := if d < 10 then 48 + d else 87 + d
theorem chr_any (d : Int) (w : World) (h0 : 0 ≤ d) (h1 : d ≤ 15) :
    Calls Try.prog 9 #[.int .u8 d] w fun e w' => e = .returned (.int .u8 (chr d)) ∧ w = w' := by
  by_cases hd : d < 10
  · go_enter Try.func9, Try.ntmps9
    go_wp2
    go_ret
    exact ⟨ret_int (by unfold chr; rw [if_pos hd]), rfl⟩
  · go_enter Try.func9, Try.ntmps9
    go_wp2
    go_ret
    exact ⟨ret_int (by unfold chr; rw [if_neg (by omega)]; omega), rfl⟩

/-- n is the number of half octets ahead of the first filler. -/
def Stop (zs : List Int) (n : Nat) : Prop := n ≤ 16 ∧ (∀ j, j < n → nib zs j ≠ 15) ∧ (n = 16 ∨ nib zs n = 15)
theorem Stop.uniq {zs : List Int} {n m : Nat} (h : Stop zs n) (k : Stop zs m) : n = m := by
  obtain ⟨h1, h2, h3⟩ := h
  obtain ⟨k1, k2, k3⟩ := k
  rcases Nat.lt_trichotomy n m with hl | he | hg
  · rcases h3 with h3 | h3
    · omega
    · exact absurd h3 (k2 n hl)
  · exact he
  · rcases k3 with k3 | k3
    · omega
    · exact absurd k3 (h2 m hg)

theorem info22 : (Try.prog.info? 22).map (·.size) = some 8 := by kernel_rfl
theorem info22' (zs : List Int) (h : Eight zs) : (Try.prog.info? 22).map (·.size) = some (bytesA zs).size := by rw [size_bytesA, h.1]; exact info22

/-- A whole array out of a block, at an operation whose guard says yes. -/
theorem wpList_load_guard {P : Program} {ops : Array Oper} {rest : List Oper} {o : Oper} {a : Act} {w : World} {Q : Exit → Act → World → Prop} (hgd : Region.wanted o (yielded ops a.tmps) = true) (ty : TypeId) (x : Operand) (ho : o.op = .load ty x)
    (g : Nat) (hx : a.eval x = .pointer (some ⟨g, 0, none⟩)) (t : TypeId) (cs : Array Value) (fr : Nat × Nat) (d : TypeDesc) (hg : w.heap[g]? = some (.cells cs t fr))
    (hu : P.underlying ty = some d) (hd : (match d with | .struct _ | .array _ _ => true | _ => false) = true) (hi : (P.info? ty).map (·.size) = some cs.size)
    (h : wpList P ops Q rest (a.put o.dst (.agg cs)) w) : wpList P ops Q (o :: rest) a w :=
  BigFrame.wpList_want hgd fun _ hK => wp_load_row ty x ho g hx t cs fr d hg hu hd hi (hK _ _ h)

set_option maxHeartbeats 400000 in
/-- tbcdDigitsBefore. -/
theorem before_any (zs : List Int) (w : World) (h : Eight zs) :
    Calls Try.prog 8 #[.agg (bytesA zs)] w fun e w' => ∃ n : Nat, e = .returned (.int .i64 n) ∧ Stop zs n ∧ Below w.heap.size w w' := by
  have HI : Hid ((Try.prog.info? 22).map (·.size) = some (bytesA zs).size) := info22' zs h
  go_enter Try.func8, Try.ntmps8
  go_wp2
  go_loopw [3] (fun i wr => ∃ k : Nat, k ≤ 16 ∧ i = .int .i64 k ∧ (∀ j, j < k → nib zs j ≠ 15) ∧ Below (w.heap.size + 1) (w.alloc (.cells (bytesA zs) 22)) wr) (fun i _ => 16 - (intOf i).toNat)
  case atStart => exact ⟨0, Nat.zero_le _, rfl, fun j hj => by omega, Below.refl _ _⟩
  case round =>
    obtain ⟨k, hk, rfl, hall, hbel⟩ := hrel
    have HB : Hid (wr.heap[w.heap.size]? = some (.cells (bytesA zs) 22)) := by show wr.heap[w.heap.size]? = _; rw [hbel.block _ (by omega)]; exact heap_alloc_new w _
    have hs : w.heap.size + 1 ≤ wr.heap.size := by have := hbel.size; simpa using this
    have HA : Hid (∀ j, j < k → nib zs j ≠ 15) := hall
    clear hall
    by_cases hlt : k < 16
    · have hb := nib_bd h k
      have hdec : decide ((k : Int) < 16) = true := decide_eq_true (by omega)
      by_cases hf : nib zs k = 15
      · have HF : Hid (nib zs k = 15) := hf
        go_wp2_with (first
          | (refine wpList_load_guard (by rfl) 22 _ (by rfl) w.heap.size (by rfl) 22 _ _ _ HB.out Try.underlying22 rfl HI.out ?_)
          | (go_at_call 10; refine (nib_any zs k _ h hlt).mono ?_; rintro e w' ⟨rfl, rfl⟩))
        go_ret
        exact ⟨k, rfl, ⟨hk, HA.out, .inr HF.out⟩, (((Below.refl _ _).alloc (Nat.le_refl _) _).trans (hbel.mono (by omega))).alloc (by omega) _⟩
      · have HF : Hid (nib zs k ≠ 15) := hf
        go_wp2_with (first
          | (refine wpList_load_guard (by rfl) 22 _ (by rfl) w.heap.size (by rfl) 22 _ _ _ HB.out Try.underlying22 rfl HI.out ?_)
          | (go_at_call 10; refine (nib_any zs k _ h hlt).mono ?_; rintro e w' ⟨rfl, rfl⟩))
        go_roundw
        case rel => exact ⟨k + 1, by omega, by go_num, fun j hj => by
          by_cases e : j = k
          · rw [e]; exact HF.out
          · exact HA.out j (by omega), hbel.alloc hs _⟩
        case measure => simp [intOf]; omega
    · have he : k = 16 := by omega
      subst he
      go_wp2
      go_ret
      exact ⟨16, rfl, ⟨hk, HA.out, .inl rfl⟩, ((Below.refl _ _).alloc (Nat.le_refl _) _).trans (hbel.mono (by omega))⟩
end Go.Proofs.Qxb6603245a.imsi

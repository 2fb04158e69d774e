import Derived.Test.Qxb6603245aNib
import Derived.Laws.IdiomStrings
import Derived.Deep.AppendLies
namespace Go.Proofs.Qxb6603245a.imsi
open Go.ChangeShapes Go.WideShapes Go.ChangeAt Go.RowKit

theorem info5 : (Try.prog.info? 5).map (fun i => (i.zero, i.size, i.bytes)) = some (some (.int .u8 0), 1, 1) := by kernel_rfl
theorem info23 : (Try.prog.info? 23).map (·.size) = some 8 := by kernel_rfl
theorem info23' (zs : List Int) (h : Eight zs) : (Try.prog.info? 23).map (·.size) = some (bytesA zs).size := by rw [size_bytesA, h.1]; exact info23

/-- An array of bytes by value, indexed. -/
theorem run_index_arr {P : Program} (t e : TypeId) (n : Nat) (cs : Array Value) (k : Nat) (v : Value) (ht : P.underlying t = some (.array n e)) (he : P.underlying e = some (.int .u8))
    (hi : (P.info? e).map (fun i => (i.zero, i.size, i.bytes)) = some (some (.int .u8 0), 1, 1)) (hk : k < n) (hv : cs[k]? = some v) (w : World) :
    (Instr.index t (.agg cs) (.int .i64 k)).run P w = .ok v w := by
  obtain ⟨i0, h1, _, h2, _⟩ := info_parts hi
  simp [Instr.index, asIntOf, run_underlying ht, run_underlying he, part, isAgg, sizeOf, typeInfo, h1, h2, hv]
  intro h
  omega

/-- The characters written so far: as bytes, as cells, as a text. -/
def chB (zs : List Int) (j : Nat) : UInt8 := UInt8.ofNat (chr (nib zs j)).toNat
def cellsTo (zs : List Int) (n : Nat) : List Value := (List.range n).map fun j => Value.int .u8 (chr (nib zs j))
def text (zs : List Int) (n : Nat) : ByteArray := ⟨((List.range n).map (chB zs)).toArray⟩

theorem chr_bd {d : Int} (h0 : 0 ≤ d) (h1 : d ≤ 15) : 48 ≤ chr d ∧ chr d ≤ 102 := by unfold chr; split <;> omega
theorem chB_toNat {zs : List Int} (h : Eight zs) (j : Nat) : ((chB zs j).toNat : Int) = chr (nib zs j) := by
  have hb := nib_bd h j
  have hc := chr_bd hb.1 hb.2
  unfold chB
  rw [UInt8.toNat_ofNat']
  omega
theorem cellsTo_succ (zs : List Int) (n : Nat) : cellsTo zs (n + 1) = cellsTo zs n ++ [.int .u8 (chr (nib zs n))] := by
  unfold cellsTo; rw [List.range_succ]; simp
theorem size_text (zs : List Int) (n : Nat) : (text zs n).size = n := by simp [text, ByteArray.size]

/-- 'string(digits)'. -/
theorem conv_text {zs : List Int} (h : Eight zs) {w : World} {base g n cap : Nat} (hown : w.ownsRow base 5 1 (.slice (some ⟨g, 0, none⟩) n cap) n (cellsTo zs n)) :
    (convert 36 9 (.slice (some ⟨g, 0, none⟩) n cap)).run Try.prog w = .ok (.string (text zs n)) w := by
  have hl : ((List.range n).map (chB zs)).length = n := by simp
  have := run_convert_bytes_back (P := Try.prog) w 36 9 5 ⟨g, 0, none⟩ cap ((List.range n).map (chB zs)) Try.underlying36 Try.underlying5 Try.underlying9 (fun j hj => by
    have hj' : j < n := by simpa using hj
    rw [add_plain, Nat.zero_add, hown.cellAt j (by omega)]
    simp only [cellsTo, List.getElem?_map, List.getElem?_range hj', Option.map_some, List.getElem_map, List.getElem_range, chB_toNat h])
  rw [hl] at this
  exact this

/-- The hexadecimal digits. -/
theorem hex_at (d : Nat) (h : d < 16) : (((ByteArray.mk #[48, 49, 50, 51, 52, 53, 54, 55, 56, 57, 97, 98, 99, 100, 101, 102])[d]'h).toNat : Int) = chr d := by
  have all : ∀ i : Fin 16, (((ByteArray.mk #[48, 49, 50, 51, 52, 53, 54, 55, 56, 57, 97, 98, 99, 100, 101, 102])[i.val]'i.isLt).toNat : Int) = chr i.val := by decide +kernel
  exact all ⟨d, h⟩

theorem one_plain (k : IntKind) (x : Int) : ∀ u ∈ [Value.int k x], u.oneCell' = true := by
  intro u hu; simp at hu; subst hu; rfl

/-- A half octet, as a number without sign. -/
def nibN (zs : List Int) (k : Nat) : Nat := (nib zs k).toNat
theorem nibN_eq {zs : List Int} (h : Eight zs) (k : Nat) : nib zs k = (nibN zs k : Int) := by
  have := nib_bd h k
  unfold nibN; omega
theorem nibN_le {zs : List Int} (h : Eight zs) (k : Nat) : nibN zs k ≤ 15 := by
  have := nib_bd h k
  unfold nibN; omega

set_option maxHeartbeats 1000000 in
/-- (IMSI).String. -/
theorem str_any (zs : List Int) (w : World) (h : Eight zs) :
    Calls Try.prog 7 #[.agg (bytesA zs)] w fun e w' => ∃ n : Nat, e = .returned (.string (text zs n)) ∧ Stop zs n ∧ Below w.heap.size w w' := by
  have HI : Hid ((Try.prog.info? 23).map (·.size) = some (bytesA zs).size) := info23' zs h
  obtain ⟨i0, hi, hz0, hz1, hz2⟩ := info_parts info5
  go_enter Try.func7, Try.ntmps7
  go_wp2_with (at_make; refine wpList_make_own _ rfl _ _ 36 rfl (w.heap.size + 1) 5 i0 (.int .u8 0) 1 Try.underlying36 hi hz0 hz1 _ _ _ 16 rfl rfl (by rfl) ?b2 ?b3 ?b4 ?_)
  case b2 => rw [hz2]; omega
  case b3 => unfold maxLen; omega
  case b4 => simp
  intro w0 hown0 hgrow0
  have hb0 : Below (w.heap.size + 1) (w.alloc (.cells (bytesA zs) 23)) w0 := (Below.refl _ _).grown hgrow0 (by simp) (fun k h => by cases h)
  have HB : Hid (w0.heap[w.heap.size]? = some (.cells (bytesA zs) 23)) := by show w0.heap[w.heap.size]? = _; rw [hb0.block _ (by omega)]; exact heap_alloc_new w _
  have hown0' : w0.ownsRow (w.heap.size + 1) 5 1 (.slice (some ⟨w.heap.size + 1, 0, none⟩) 0 16) 0 (cellsTo zs 0) := by simpa [cellsTo] using hown0
  clear hown0 hgrow0
  go_wp2_with (first
    | (refine wpList_load_guard (by rfl) 23 _ (by rfl) w.heap.size (by rfl) 23 _ _ _ HB.out Try.underlying23 rfl HI.out ?_))
  go_loopw [3, 10] (fun dg i wr => ∃ k : Nat, k ≤ 8 ∧ i = .int .i64 k ∧ dg = .slice (some ⟨w.heap.size + 1, 0, none⟩) (2 * k) 16 ∧ (∀ j, j < 2 * k → nib zs j ≠ 15) ∧
      wr.ownsRow (w.heap.size + 1) 5 1 (.slice (some ⟨w.heap.size + 1, 0, none⟩) (2 * k) 16) (2 * k) (cellsTo zs (2 * k)) ∧ Below (w.heap.size + 1) (w.alloc (.cells (bytesA zs) 23)) wr) (fun _ i _ => 8 - (intOf i).toNat)
  case atStart => exact ⟨0, Nat.zero_le _, rfl, rfl, fun j hj => by omega, hown0', hb0⟩
  case round =>
    obtain ⟨k, hk, rfl, rfl, hall, hown, hbel⟩ := hrel
    have HA : Hid (∀ j, j < 2 * k → nib zs j ≠ 15) := hall
    have hs : w.heap.size + 1 ≤ wr.heap.size := by have := hbel.size; simpa using this
    have hbw : Below w.heap.size w wr := ((Below.refl _ _).alloc (Nat.le_refl _) _).trans (hbel.mono (by omega))
    clear hall hown0' hb0 HB
    by_cases hlt : k < 8
    · obtain ⟨z, hz⟩ : ∃ z, z = zs.getD k 0 := ⟨_, rfl⟩
      obtain ⟨d0, hd0⟩ : ∃ d, d = nibN zs (2 * k) := ⟨_, rfl⟩
      obtain ⟨d1, hd1⟩ : ∃ d, d = nibN zs (2 * k + 1) := ⟨_, rfl⟩
      have hzb : 0 ≤ z ∧ z ≤ 255 := by rw [hz]; exact h.2 k
      obtain ⟨hz1', hz2'⟩ := hzb
      have e0 : nib zs (2 * k) = d0 := by rw [hd0]; exact nibN_eq h _
      have e1 : nib zs (2 * k + 1) = d1 := by rw [hd1]; exact nibN_eq h _
      have l0 : d0 ≤ 15 := by rw [hd0]; exact nibN_le h _
      have l1 : d1 ≤ 15 := by rw [hd1]; exact nibN_le h _
      have hand : bits .and .u8 z 15 = (d0 : Int) := by
        rw [u8_and15 z hz1' (by omega), ← e0, hz]; unfold nib; rw [if_pos (by omega), show 2 * k / 2 = k from by omega]
      have hdiv : z / 16 = (d1 : Int) := by
        rw [← e1, hz]; unfold nib; rw [if_neg (by omega), show (2 * k + 1) / 2 = k from by omega]
      have hidx : ∀ w : World, (Instr.index 23 (.agg (bytesA zs)) (.int .i64 k)).run Try.prog w = .ok (.int .u8 z) w :=
        fun w => run_index_arr 23 5 8 _ k _ Try.underlying23 Try.underlying5 info5 hlt (by rw [hz]; exact bytesA_at zs k (by rw [h.1]; exact hlt)) w
      have j0 : ∀ w : World, (Instr.index 40 (.agg #[.int .u8 d0, .int .u8 d1]) (.int .i64 0)).run Try.prog w = .ok (.int .u8 d0) w :=
        fun w => run_index_arr 40 5 2 _ 0 _ Try.underlying40 Try.underlying5 info5 (by omega) rfl w
      have j1 : ∀ w : World, (Instr.index 40 (.agg #[.int .u8 d0, .int .u8 d1]) (.int .i64 1)).run Try.prog w = .ok (.int .u8 d1) w :=
        fun w => run_index_arr 40 5 2 _ 1 _ Try.underlying40 Try.underlying5 info5 (by omega) rfl w
      have E0 : Hid (nib zs (2 * k) = d0) := e0
      have E1 : Hid (nib zs (2 * k + 1) = d1) := e1
      clear hz hd0 hd1 e0 e1
      by_cases c0 : d0 = 15
      · have hand' : bits .and .u8 z 15 = 15 := by rw [hand, c0]; rfl
        have j0' : ∀ w : World, (Instr.index 40 (.agg #[.int .u8 15, .int .u8 d1]) (.int .i64 0)).run Try.prog w = .ok (.int .u8 15) w :=
          fun w => run_index_arr 40 5 2 _ 0 _ Try.underlying40 Try.underlying5 info5 (by omega) rfl w
        have E0' : Hid (nib zs (2 * k) = 15) := by show nib zs (2 * k) = 15; rw [E0.out, c0]; rfl
        have hcv := conv_text h hown
        clear hand j0 j1 E0 c0 l0
        go_wp2
        refine wp_loop_rounds 1 ?_
        rw [rounds_succ]
        go_wp2
        go_ret
        exact ⟨2 * k, rfl, ⟨by omega, HA.out, .inr E0'.out⟩, hbw⟩
      · obtain ⟨q0, hq0⟩ : ∃ q, q = chr d0 := ⟨_, rfl⟩
        have hx0 : (((ByteArray.mk #[48, 49, 50, 51, 52, 53, 54, 55, 56, 57, 97, 98, 99, 100, 101, 102])[d0]'(by show d0 < 16; omega)).toNat : Int) = q0 := by rw [hq0]; exact hex_at d0 (by omega)
        have HQ0 : Hid (Value.int .u8 q0 = .int .u8 (chr (nib zs (2 * k)))) := by show Value.int .u8 q0 = _; rw [hq0, E0.out]
        clear hq0
        go_wp2
        refine wp_loop_rounds 3 ?_
        rw [rounds_succ]
        go_wp2_with (at_builtin; refine wpList_append_fits _ rfl (.tmp 25) (.tmp 28) 36 rfl (w.heap.size + 1) 5 i0 1 Try.underlying36 hi hz1 (w.heap.size + 1) (2 * k) 16 (cellsTo zs (2 * k)) rfl (hown.alloc _) ⟨wr.heap.size, 0, none⟩ 1 1 [.int .u8 q0] rfl rfl (World.news_of_block (heap_alloc_new wr _)) (one_plain _ _) (by omega) ?_)
        intro w1 hown1 hgrow1
        have hown1' : w1.ownsRow (w.heap.size + 1) 5 1 (.slice (some ⟨w.heap.size + 1, 0, none⟩) (2 * k + 1) 16) (2 * k + 1) (cellsTo zs (2 * k + 1)) := by rw [cellsTo_succ, ← HQ0.out]; exact hown1
        have hb1 : Below (w.heap.size + 1) (w.alloc (.cells (bytesA zs) 23)) w1 := (hbel.alloc hs _).grown hgrow1 (by simp; omega) (fun k h => by cases h; omega)
        have hs1 : w.heap.size + 1 ≤ w1.heap.size := by have := hb1.size; simpa using this
        have hbw1 : Below w.heap.size w w1 := ((Below.refl _ _).alloc (Nat.le_refl _) _).trans (hb1.mono (by omega))
        have HA1 : Hid (∀ j, j < 2 * k + 1 → nib zs j ≠ 15) := by
          intro j hj
          by_cases e : j = 2 * k
          · rw [e, E0.out]; omega
          · exact HA.out j (by omega)
        clear hown1 hgrow1 hown hbel hbw hx0
        by_cases c1 : d1 = 15
        · have E1' : Hid (nib zs (2 * k + 1) = 15) := by show nib zs (2 * k + 1) = 15; rw [E1.out, c1]; rfl
          have hcv := conv_text h hown1'
          have j1' : ∀ w : World, (Instr.index 40 (.agg #[.int .u8 d0, .int .u8 15]) (.int .i64 1)).run Try.prog w = .ok (.int .u8 15) w :=
            fun w => run_index_arr 40 5 2 _ 1 _ Try.underlying40 Try.underlying5 info5 (by omega) rfl w
          clear j1 E1
          go_wp2
          rw [rounds_succ]
          go_wp2
          go_ret
          exact ⟨2 * k + 1, rfl, ⟨by omega, HA1.out, .inr E1'.out⟩, hbw1⟩
        · obtain ⟨q1, hq1⟩ : ∃ q, q = chr d1 := ⟨_, rfl⟩
          have hx1 : (((ByteArray.mk #[48, 49, 50, 51, 52, 53, 54, 55, 56, 57, 97, 98, 99, 100, 101, 102])[d1]'(by show d1 < 16; omega)).toNat : Int) = q1 := by rw [hq1]; exact hex_at d1 (by omega)
          have HQ1 : Hid (Value.int .u8 q1 = .int .u8 (chr (nib zs (2 * k + 1)))) := by show Value.int .u8 q1 = _; rw [hq1, E1.out]
          clear hq1
          go_wp2
          rw [rounds_succ]
          go_wp2_with (at_builtin; refine wpList_append_fits _ rfl (.tmp 25) (.tmp 28) 36 rfl (w.heap.size + 1) 5 i0 1 Try.underlying36 hi hz1 (w.heap.size + 1) (2 * k + 1) 16 (cellsTo zs (2 * k + 1)) rfl (hown1'.alloc _) ⟨w1.heap.size, 0, none⟩ 1 1 [.int .u8 q1] rfl rfl (World.news_of_block (heap_alloc_new w1 _)) (one_plain _ _) (by omega) ?_)
          intro w2 hown2 hgrow2
          have hown2' : w2.ownsRow (w.heap.size + 1) 5 1 (.slice (some ⟨w.heap.size + 1, 0, none⟩) (2 * k + 1 + 1) 16) (2 * k + 1 + 1) (cellsTo zs (2 * k + 1 + 1)) := by rw [cellsTo_succ, ← HQ1.out]; exact hown2
          have hb2 : Below (w.heap.size + 1) (w.alloc (.cells (bytesA zs) 23)) w2 := (hb1.alloc hs1 _).grown hgrow2 (by simp; omega) (fun k h => by cases h; omega)
          have HA2 : Hid (∀ j, j < 2 * (k + 1) → nib zs j ≠ 15) := by
            intro j hj
            by_cases e : j = 2 * k + 1
            · rw [e, E1.out]; omega
            · exact HA1.out j (by omega)
          clear hown2 hgrow2 hown1' hb1 hbw1 hx1
          go_wp2
          rw [rounds_succ]
          go_wp2
          go_roundw
          case rel => exact ⟨k + 1, by omega, by go_num, rfl, HA2.out, hown2', hb2⟩
          case measure => simp [intOf]; omega
    · have he : k = 8 := by omega
      subst he
      have hcv := conv_text h hown
      go_wp2
      go_ret
      exact ⟨16, rfl, ⟨by omega, HA.out, .inl rfl⟩, hbw⟩
end Go.Proofs.Qxb6603245a.imsi

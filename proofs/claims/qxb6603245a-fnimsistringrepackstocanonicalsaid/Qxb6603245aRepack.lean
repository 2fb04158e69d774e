import Derived.Test.Qxb6603245aCanon
import Derived.Test.Qxb6603245aModel
namespace Go.Proofs.Qxb6603245a.imsi
open Go.ChangeShapes Go.WideShapes Go.ChangeAt Go.RowKit

/-- What lies in memory in the law's loops: the element's box (block b), 'got' (block g), 'want' (block g + 1). -/
def Both (zs : List Int) (w : World) (b g : Nat) (gs ws : List Int) (wr : World) : Prop :=
  Below w.heap.size w wr ∧ wr.heap[b]? = some (.cells (bytesA zs) 22) ∧ Holds16 wr g gs ∧ Holds16 wr (g + 1) ws
theorem Both.setG {zs : List Int} {w wr : World} {b g : Nat} {gs ws : List Int} (h : Both zs w b g gs ws wr) (hb : b < g) (hw : w.heap.size ≤ g) (k : Nat) (x : Int) :
    Both zs w b g (gs.set k x) ws (wr.setCell ⟨g, k, none⟩ (.int .u8 x)) :=
  ⟨h.1.setCell hw _, by rw [heap_setCell_other _ _ _ _ (by simp; omega)]; exact h.2.1, h.2.2.1.set k x, h.2.2.2.other _ _ (by simp)⟩
theorem Both.setW {zs : List Int} {w wr : World} {b g : Nat} {gs ws : List Int} (h : Both zs w b g gs ws wr) (hb : b < g) (hw : w.heap.size ≤ g) (k : Nat) (x : Int) :
    Both zs w b g gs (ws.set k x) (wr.setCell ⟨g + 1, k, none⟩ (.int .u8 x)) :=
  ⟨h.1.setCell (by simp; omega) _, by rw [heap_setCell_other _ _ _ _ (by simp; omega)]; exact h.2.1, h.2.2.1.other _ _ (by simp), h.2.2.2.set k x⟩
theorem Both.alloc {zs : List Int} {w wr : World} {b g : Nat} {gs ws : List Int} (h : Both zs w b g gs ws wr) (hb : b < g) (o : Obj) : Both zs w b g gs ws (wr.alloc o) :=
  ⟨h.1.alloc h.1.size _, by rw [Below.heap_alloc _ _ _ (by have := h.2.2.1.lt; omega)]; exact h.2.1, h.2.2.1.alloc o, h.2.2.2.alloc o⟩
theorem Both.start {zs : List Int} {w w2 : World} {b : Nat} (hb : Below w.heap.size w w2) (hbox : w2.heap[b]? = some (.cells (bytesA zs) 22)) :
    Both zs w b w2.heap.size (List.replicate 16 0) (List.replicate 16 0) ((w2.alloc (.cells (bytesA (List.replicate 16 0)) 30)).alloc (.cells (bytesA (List.replicate 16 0)) 30)) := by
  have hlt : b < w2.heap.size := by
    rcases Nat.lt_or_ge b w2.heap.size with h | h
    · exact h
    · rw [Array.getElem?_eq_none h] at hbox; cases hbox
  refine ⟨(hb.alloc hb.size _).alloc (by have := hb.size; simp; omega) _, ?_, ⟨by simp, heap_alloc2_old w2 _ _⟩, ⟨by simp, heap_alloc2_new w2 _ _⟩⟩
  rw [Below.heap_alloc _ _ _ (by simp; omega), Below.heap_alloc _ _ _ hlt]
  exact hbox

set_option maxHeartbeats 2000000 in
theorem law_repack (zs : List Int) (w : World) (h : Eight zs) :
    Calls Try.prog 5 #[.agg (bytesA zs)] w fun e w' => e = .returned (.bool true) ∧ Below w.heap.size w w' := by
  have HI : Hid ((Try.prog.info? 22).map (·.size) = some (bytesA zs).size) := info22' zs h
  have HB0 : Hid ((w.alloc (.cells (bytesA zs) 22)).heap[w.heap.size]? = some (.cells (bytesA zs) 22)) := heap_alloc_new w _
  go_enter Try.func5, Try.ntmps5
  go_wp2_with (refine wpList_load_guard (by rfl) 22 _ (by rfl) w.heap.size (by rfl) 22 _ _ _ HB0.out Try.underlying22 rfl HI.out ?_)
  refine (str_any zs _ h).mono ?_
  rintro e w1 ⟨n, rfl, hst, hb1⟩
  have hb1' : Below (w.heap.size + 1) (w.alloc (.cells (bytesA zs) 22)) w1 := hb1.mono (by simp)
  have HB1 : Hid (w1.heap[w.heap.size]? = some (.cells (bytesA zs) 22)) := by show w1.heap[w.heap.size]? = _; rw [hb1'.block _ (by omega)]; exact HB0.out
  have h16 : n ≤ 16 := hst.1
  have hsz := size_text zs n
  clear HB0 hb1
  go_wp2_with (refine wpList_load_guard (by rfl) 22 _ (by rfl) w.heap.size (by rfl) 22 _ _ _ HB1.out Try.underlying22 rfl HI.out ?_)
  refine (before_any zs _ h).mono ?_
  rintro e w2 ⟨n', rfl, hst', hb2⟩
  have hn := hst'.uniq hst
  subst hn
  have hs1 : w.heap.size + 1 ≤ w1.heap.size := by have := hb1'.size; simpa using this
  have hb2' : Below (w.heap.size + 1) (w.alloc (.cells (bytesA zs) 22)) w2 := hb1'.trans (hb2.mono hs1)
  have hs2 : w.heap.size + 1 ≤ w2.heap.size := by have := hb2'.size; simpa using this
  have hbw : Below w.heap.size w w2 := ((Below.refl _ _).alloc (Nat.le_refl _) _).trans (hb2'.mono (by omega))
  have hbox : w2.heap[w.heap.size]? = some (.cells (bytesA zs) 22) := by rw [hb2'.block _ (by omega)]; exact heap_alloc_new w _
  have hstart := Both.start hbw hbox
  clear HB1 hb2 hb1' hst' hb2' hbw hbox
  go_wp2_with fail
  go_loopw [7] (fun i wr => ∃ (k : Nat) (gs ws : List Int), k ≤ 16 ∧ i = .int .i64 k ∧ (∀ j, j < k → gs.getD j 0 = 15) ∧ (∀ j, j < k → ws.getD j 0 = 15) ∧ Both zs w w.heap.size w2.heap.size gs ws wr) (fun i _ => 16 - (intOf i).toNat)
  case atStart => exact ⟨0, _, _, Nat.zero_le _, rfl, fun j hj => by omega, fun j hj => by omega, hstart⟩
  case round =>
    obtain ⟨k, gs, ws, hk, rfl, hg, hw, hB⟩ := hrel
    clear hstart
    by_cases hlt : k < 16
    · have c1 := hB.2.2.1.cell k hlt
      have f1 := hB.2.2.1.free k
      have hB1 := hB.setG (by omega) (by omega) k 15
      have c2 := hB1.2.2.2.cell k hlt
      have f2 := hB1.2.2.2.free k
      have hB2 := hB1.setW (by omega) (by omega) k 15
      have HG : Hid (∀ j, j < k + 1 → (gs.set k 15).getD j 0 = 15) := set_fill hB.2.2.1.1 hg hlt
      have HW : Hid (∀ j, j < k + 1 → (ws.set k 15).getD j 0 = 15) := set_fill hB.2.2.2.1 hw hlt
      clear hg hw
      go_wp2_with fail
      go_roundw
      case rel => exact ⟨k + 1, _, _, by omega, by go_num, HG.out, HW.out, hB2⟩
      case measure => simp [intOf]; omega
    · have eg := all_fill (nib zs) hB.2.2.1.1 (fun j hj => hg j (by omega))
      have ew := all_fill (nib zs) hB.2.2.2.1 (fun j hj => hw j (by omega))
      subst eg
      subst ew
      have hdec : decide ((k : Int) < 16) = false := decide_eq_false (by omega)
      clear hg hw
      go_wp2_with fail
      clear hdec
      go_loopw [8] (fun i wr => ∃ k : Nat, k ≤ n' ∧ i = .int .i64 k ∧ Both zs w w.heap.size w2.heap.size (canon (nib zs) k) (canon (nib zs) 0) wr) (fun i _ => n' - (intOf i).toNat)
      case atStart => exact ⟨0, Nat.zero_le _, rfl, hB⟩
      case round =>
        obtain ⟨k2, hk2, rfl, hB2⟩ := hrel
        clear hB
        by_cases hlt2 : k2 < n'
        · have hd := nib_stop h hst k2 hlt2
          obtain ⟨d, ed⟩ : ∃ d, d = nib zs k2 := ⟨_, rfl⟩
          obtain ⟨c, ec⟩ : ∃ c, c = chr d := ⟨_, rfl⟩
          have hks : (k2 : Int) < ((text zs n').size : Int) := by rw [size_text]; omega
          have hck : (((text zs n')[k2]'(by rw [size_text]; exact hlt2)).toNat : Int) = c := by rw [ec, ed]; exact text_at h n' k2 hlt2 _
          rw [← ed] at hd
          have HO : Hid (okC c) := by show okC c; rw [ec]; exact ok_chr hd.1 hd.2
          have HV : Hid (valC c = d) := by show valC c = d; rw [ec]; exact val_chr hd.1 hd.2
          have c1 := hB2.2.2.1.cell k2 (by omega)
          have f1 := hB2.2.2.1.free k2
          have hB3 := hB2.setG (by omega) (by omega) k2 d
          rw [ed, canon_set _ _ (by omega), ← ed] at hB3
          clear ec ed hd
          go_wp2_with fail
          refine (char_yes_at c d _ HO.out HV.out).mono ?_
          rintro e w' ⟨rfl, rfl⟩
          go_wp2
          go_roundw
          case rel => exact ⟨k2 + 1, by omega, by go_num, hB3⟩
          case measure => simp [intOf]; omega
        · have he : k2 = n' := by omega
          have hdec2 : decide ((k2 : Int) < (n' : Int)) = false := decide_eq_false (by omega)
          rw [he] at hB2
          clear he
          go_wp2_with fail
          clear hdec2
          go_loopw [11] (fun i wr => ∃ k : Nat, k ≤ n' ∧ i = .int .i64 k ∧ Both zs w w.heap.size w2.heap.size (canon (nib zs) n') (canon (nib zs) k) wr) (fun i _ => n' - (intOf i).toNat)
          case atStart => exact ⟨0, Nat.zero_le _, rfl, hB2⟩
          case round =>
            obtain ⟨k3, hk3, rfl, hB4⟩ := hrel
            clear hB2
            by_cases hlt3 : k3 < n'
            · have hBA := hB4.alloc (by omega) (.cells (bytesA zs) 22)
              have c1 := hBA.2.2.2.cell k3 (by omega)
              have f1 := hBA.2.2.2.free k3
              have hB5 := hBA.setW (by omega) (by omega) k3 (nib zs k3)
              rw [canon_set _ _ (by omega)] at hB5
              have HB : Hid (wr.heap[w.heap.size]? = some (.cells (bytesA zs) 22)) := hB4.2.1
              clear hBA
              go_wp2_with (first
                | (refine wpList_load_guard (by rfl) 22 _ (by rfl) w.heap.size (by rfl) 22 _ _ _ HB.out Try.underlying22 rfl HI.out ?_)
                | (go_at_call 10; refine (nib_any zs k3 _ h (by omega)).mono ?_; rintro e w' ⟨rfl, rfl⟩))
              go_roundw
              case rel => exact ⟨k3 + 1, by omega, by go_num, hB5⟩
              case measure => simp [intOf]; omega
            · have he : k3 = n' := by omega
              rw [he] at hB4
              clear he
              have hS := sixteen_nib h n'
              obtain ⟨cs, ecs⟩ : ∃ cs : List Value, cs = (canon (nib zs) n').map (Value.int .u8) := ⟨_, rfl⟩
              have r1 : wr.rangeAt w2.heap.size 0 cs := by rw [ecs]; exact hB4.2.2.1.range
              have r2 : wr.rangeAt (w2.heap.size + 1) 0 cs := by rw [ecs]; exact hB4.2.2.2.range
              have hfin : Below w.heap.size w wr := hB4.1
              have hu := Try.underlying30
              have hl : cs.length = 16 := by rw [ecs]; simp [canon]
              have hi : (Try.prog.info? 30).map (·.size) = some cs.length := by rw [hl]; exact info30
              have heq : ∀ w : World, (Op.equalIn 10000 22 (.agg (bytesA (packL (canon (nib zs) n')))) (.agg (bytesA (packL (canon (nib zs) n'))))).run Try.prog w = .ok true w :=
                fun w => eq_self 9998 22 8 Try.underlying22 _ (by simp [packL]) w
              have hgd := eqGuard22
              have HC : Hid (cs = (canon (nib zs) n').map (Value.int .u8)) := ecs
              have HS : Hid (Sixteen (canon (nib zs) n')) := hS
              clear ecs hB4 hS hl
              go_wp2_with fail
              refine wp_region_held_drew (S := fun w' => w'.rangeAt w2.heap.size 0 cs ∧ w'.rangeAt (w2.heap.size + 1) 0 cs ∧ Below w.heap.size w w') (by kernel_rfl) ⟨(World.rangeAt_drew _ _ _ _).2 r1, (World.rangeAt_drew _ _ _ _).2 r2, hfin.drew⟩ (fun hHeld => ?_)
              refine wpAnyH_take (i := 0) (oi := ⟨some 55, .load 30 (.tmp 5), 30, _, _, none⟩) (v := .agg cs.toArray) rfl (by kernel_rfl) (by kernel_rfl) (by kernel_rfl) (fun _ _ _ h => h) (yieldsIf_load_mid (by rfl) 30 _ rfl w2.heap.size 0 rfl cs _ (fun _ h => h.1) hu rfl hi) hHeld ?_
              simp only [Act.put, List.setIfInBounds_toArray, List.set_cons_zero, List.set_cons_succ]
              refine wpAnyH_take (i := 2) (oi := ⟨some 57, .load 30 (.tmp 6), 30, _, _, none⟩) (v := .agg cs.toArray) rfl (by kernel_rfl) (by kernel_rfl) (by kernel_rfl) (fun _ _ _ h => h) (yieldsIf_load_mid (by rfl) 30 _ rfl (w2.heap.size + 1) 0 rfl cs _ (fun _ h => h.2.1) hu rfl hi) hHeld ?_
              simp only [Act.put, List.setIfInBounds_toArray, List.set_cons_zero, List.set_cons_succ]
              refine wpAnyH_ready (rs := [1]) (by kernel_rfl) (by simp) ?_
              refine AllReadyH.cons (o := ⟨some 56, .call ⟨.value (.func 13), #[.tmp 55], #[30]⟩, 22, _, _, none⟩) rfl (fun K hK => ?_) AllReadyH.nil
              go_simp
              refine (pack_cs cs _ HC.out _ HS.out).mono ?_
              rintro e w3 ⟨rfl, hb3⟩
              refine hK.out _ _ ⟨range_below hb3 hHeld.1, range_below hb3 hHeld.2.1, below_step hb3 hHeld.2.2⟩ (fun hHeld3 => ?_)
              clear hK K hHeld hb3
              refine wpAnyH_ready (rs := [3]) (by kernel_rfl) (by simp) ?_
              refine AllReadyH.cons (o := ⟨some 58, .call ⟨.value (.func 13), #[.tmp 57], #[30]⟩, 22, _, _, none⟩) rfl (fun K hK => ?_) AllReadyH.nil
              go_simp
              refine (pack_cs cs _ HC.out _ HS.out).mono ?_
              rintro e w4 ⟨rfl, hb4⟩
              refine hK.out _ _ ⟨range_below hb4 hHeld3.1, range_below hb4 hHeld3.2.1, below_step hb4 hHeld3.2.2⟩ (fun hHeld4 => ?_)
              clear hK K hHeld3 hb4
              refine wpAnyH_take (i := 4) (oi := ⟨some 59, .binOp .eql 22 (.tmp 56) (.tmp 58) 22, 4, _, _, none⟩) (v := .bool true) rfl (by kernel_rfl) (by kernel_rfl) (by kernel_rfl) (fun _ _ _ h => h) (Or.inl ⟨by rfl, ?_⟩) hHeld4 ?_
              · intro W hSw
                clear hSw
                go_simp
              simp only [Act.put, List.setIfInBounds_toArray, List.set_cons_zero, List.set_cons_succ]
              refine wpAnyH_take (i := 5) (oi := ⟨some 2, .assign (.tmp 59), 4, _, _, none⟩) (v := .bool true) rfl (by kernel_rfl) (by kernel_rfl) (by kernel_rfl) (fun _ _ _ h => h) (Or.inl ⟨by rfl, ?_⟩) hHeld4 ?_
              · intro W hSw
                clear hSw
                go_simp
              simp only [Act.put, List.setIfInBounds_toArray, List.set_cons_zero, List.set_cons_succ]
              refine wpAnyH_done (by kernel_rfl) ?_ _
              go_wp2
              go_ret
              exact ⟨rfl, hHeld4.2.2⟩
end Go.Proofs.Qxb6603245a.imsi

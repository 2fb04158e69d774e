import Derived.Test.Qxb6603245aRows
import Derived.WalkKit
import Derived.ProofKit
import Derived.OpenShut
import Derived.LoopN
import Derived.Deep.AppendLies
import Derived.WalkSmall
import Derived.WalkSpells
import Derived.Deep.DeepMust
namespace Go.Proofs.Qxb6603245a.tv
open Go.ChangeShapes Go.WideShapes Go.ChangeAt Go.RowKit

theorem info5 : (Try.prog.info? 5).map (fun i => (i.zero, i.size, i.bytes)) = some (some (.int .u8 0), 1, 1) := by kernel_rfl

theorem own_lt {w : World} {B : Nat} {v : Value} {n : Nat} {xs : List Value} (h : w.ownsRow B 5 1 v n xs) : ∀ k, v.ownBlock = some k → B ≤ k ∧ k < w.heap.size := by
  intro k hk
  rcases h.2 with ⟨rfl, _⟩ | ⟨g, cap, cur, rfl, hb, hg, _⟩
  · cases hk
  · have e : g = k := by simpa [Value.ownBlock] using hk
    subst e
    refine ⟨hb, ?_⟩
    rcases Nat.lt_or_ge g w.heap.size with h | h
    · exact h
    · rw [Array.getElem?_eq_none h] at hg; cases hg

/-- One cell, as the law on append asks for it. -/
theorem one_cell {w : World} {g : Nat} {u : Value} (h : w.cell? ⟨g, 0, none⟩ = some u) : ∀ j u', [u][j]? = some u' → w.cell? ((⟨g, 0, none⟩ : Addr).add j) = some u' := by
  intro j u' hj
  match j, hj with
  | 0, hj => simp at hj; subst hj; simpa [Addr.add] using h
theorem one_plain (k : IntKind) (x : Int) : ∀ u ∈ [Value.int k x], u.oneCell' = true := by
  intro u hu; simp at hu; subst hu; rfl

/-- appendTV with one value octet: two octets are appended to a row of the call's own (or to nil). -/
theorem tv_any (B : Nat) (v : Value) (n : Nat) (xs : List Value) (t x : Int) (gx : Nat) (w : World) (hown : w.ownsRow B 5 1 v n xs) (hB : B ≤ w.heap.size)
    (hx : w.cell? ⟨gx, 0, none⟩ = some (.int .u8 x)) (hne : v.ownBlock ≠ some gx) (hn : n ≤ 100) :
    Calls Try.prog 15 #[v, .int .u8 t, .slice (some ⟨gx, 0, none⟩) 1 1] w fun e w' => ∃ g cap : Nat, e = .returned (.slice (some ⟨g, 0, none⟩) (n + 2) cap) ∧
      w'.ownsRow B 5 1 (.slice (some ⟨g, 0, none⟩) (n + 2) cap) (n + 2) (xs ++ [.int .u8 t, .int .u8 x]) ∧ Below B w w' := by
  obtain ⟨i0, hi, hz0, hz1, hz2⟩ := info_parts info5
  have hgx : gx < w.heap.size := World.block_lt_of_cell? w _ hx
  have HX : Hid (w.cell? ⟨gx, 0, none⟩ = some (.int .u8 x)) := hx
  have HV : Hid (v.ownBlock ≠ some gx) := hne
  clear hx hne
  go_enter Try.func15, Try.ntmps15
  go_wp2_with (at_builtin; refine wpList_append_lies _ rfl (.tmp 7) (.tmp 9) 36 rfl B 5 i0 (.int .u8 0) 1 1 Try.underlying36 hi hz0 hz1 hz2 rfl (by omega) v n xs rfl (hown.alloc _) ⟨w.heap.size, 0, none⟩ 1 1 [.int .u8 t] rfl rfl (World.news_of_block (heap_alloc_new w _)) (one_plain _ _) (by omega) (by unfold maxLen; omega) (by omega) (by simp; omega) _ rfl ?_)
  intro g1 cap1 w1 hown1 hgrow1 hat1 hlt1
  have hbl := own_lt hown
  have hx1 : w1.cell? ⟨gx, 0, none⟩ = some (.int .u8 x) := by
    rw [hgrow1.cell_far _ (by simp; omega) (fun e => HV.out e.symm)]
    rw [World.cell?_alloc_lt _ _ _ hgx]
    exact HX.out
  have hs1 : w.heap.size + 1 ≤ w1.heap.size := by have := hgrow1.size; simpa using this
  have hne1 : g1 ≠ gx := by
    intro e; subst e
    rcases hat1 with h | h
    · exact HV.out h
    · omega
  have hb1 : Below B w w1 := ((Below.refl _ _).alloc hB _).grown hgrow1 (by simp; omega) (fun k h => (hbl k h).1)
  have hbg := own_lt hown1 g1 rfl
  go_wp2_with (at_builtin; refine wpList_append_lies _ rfl (.tmp 10) (.tmp 11) 36 rfl B 5 i0 (.int .u8 0) 1 1 Try.underlying36 hi hz0 hz1 hz2 rfl (by omega) (.slice (some ⟨g1, 0, none⟩) (n + 1) cap1) (n + 1) (xs ++ [Value.int .u8 t]) rfl hown1 ⟨gx, 0, none⟩ 1 1 [.int .u8 x] rfl rfl (one_cell hx1) (one_plain _ _) (by omega) (by unfold maxLen; omega) (by omega) (by omega) _ rfl ?_)
  intro g2 cap2 w2 hown2 hgrow2 hat2 hlt2
  go_wp2
  go_ret
  refine ⟨g2, cap2, rfl, ?_, hb1.grown hgrow2 (by omega) (fun k h => by have e : g1 = k := by simpa [Value.ownBlock] using h
                                                                        omega)⟩
  exact hown2

/-- AppendIEs(nil), Teardown set: four octets. -/
theorem ies_yes (ns : Int) (w : World) (h0 : 0 ≤ ns) (h1 : ns ≤ 255) :
    Calls Try.prog 14 #[.agg #[.int .u8 ns, .bool true], .slice none 0 0] w fun e w' => ∃ g cap : Nat, e = .returned (.slice (some ⟨g, 0, none⟩) 4 cap) ∧
      (w'.cell? ⟨g, 0, none⟩ = some (.int .u8 19) ∧ w'.cell? ⟨g, 1, none⟩ = some (.int .u8 255) ∧ w'.cell? ⟨g, 2, none⟩ = some (.int .u8 20) ∧ w'.cell? ⟨g, 3, none⟩ = some (.int .u8 (ns % 16))) ∧ Below w.heap.size w w' := by
  have han : bits .and .u8 ns 15 = ns % 16 := u8_and15 ns h0 (by omega)
  go_enter Try.func14, Try.ntmps14
  go_wp2_with fail
  refine (tv_any (w.heap.size + 2) (.slice none 0 0) 0 [] 19 255 (w.heap.size + 1) _ (World.ownsRow_nil _ _ _ _) ?hB ?hx ?hne (by omega)).mono ?_
  case hB => simp
  case hx => simp
  case hne => intro h; cases h
  rintro e w1 ⟨g1, cap1, rfl, hown1, hb1⟩
  have hc0 : w1.cell? ⟨w.heap.size, 0, none⟩ = some (.int .u8 ns) := by rw [hb1.cell (by simp)]; simp
  have hs1 : w.heap.size + 2 ≤ w1.heap.size := by have := hb1.size; simpa using this
  have hb1' : Below w.heap.size w w1 := (((Below.refl _ _).alloc (Nat.le_refl _) _).alloc (by simp) _).trans (hb1.mono (by omega))
  clear hb1
  have hown : w1.ownsRow (w.heap.size + 2) 5 1 (.slice (some ⟨g1, 0, none⟩) 2 cap1) 2 [.int .u8 19, .int .u8 255] := hown1
  have hog := own_lt hown g1 rfl
  clear hown1
  go_wp2_with fail
  refine (tv_any (w.heap.size + 2) (.slice (some ⟨g1, 0, none⟩) 2 cap1) 2 [.int .u8 19, .int .u8 255] 20 (ns % 16) w1.heap.size _ (hown.alloc _) ?hB2 ?hx2 ?hne2 (by omega)).mono ?_
  case hB2 => simp; omega
  case hx2 => simp
  case hne2 => intro h; have e : g1 = w1.heap.size := by simpa [Value.ownBlock] using h
               omega
  rintro e w2 ⟨g2, cap2, rfl, hown2, hb2⟩
  have hown' : w2.ownsRow (w.heap.size + 2) 5 1 (.slice (some ⟨g2, 0, none⟩) 4 cap2) 4 [.int .u8 19, .int .u8 255, .int .u8 20, .int .u8 (ns % 16)] := hown2
  have hb2' : Below w.heap.size w w2 := (hb1'.alloc (by omega) _).trans (hb2.mono (by omega))
  clear hown2 hb2 hown
  go_wp2
  go_ret
  exact ⟨g2, cap2, rfl, ⟨hown'.cellAt 0 (by omega), hown'.cellAt 1 (by omega), hown'.cellAt 2 (by omega), hown'.cellAt 3 (by omega)⟩, hb2'⟩

/-- AppendIEs(nil), Teardown not set: two octets. -/
theorem ies_no (ns : Int) (w : World) (h0 : 0 ≤ ns) (h1 : ns ≤ 255) :
    Calls Try.prog 14 #[.agg #[.int .u8 ns, .bool false], .slice none 0 0] w fun e w' => ∃ g cap : Nat, e = .returned (.slice (some ⟨g, 0, none⟩) 2 cap) ∧
      (w'.cell? ⟨g, 0, none⟩ = some (.int .u8 20) ∧ w'.cell? ⟨g, 1, none⟩ = some (.int .u8 (ns % 16))) ∧ Below w.heap.size w w' := by
  have han : bits .and .u8 ns 15 = ns % 16 := u8_and15 ns h0 (by omega)
  go_enter Try.func14, Try.ntmps14
  go_wp2_with fail
  refine (tv_any (w.heap.size + 2) (.slice none 0 0) 0 [] 20 (ns % 16) (w.heap.size + 1) _ (World.ownsRow_nil _ _ _ _) ?hB ?hx ?hne (by omega)).mono ?_
  case hB => simp
  case hx => simp
  case hne => intro h; cases h
  rintro e w1 ⟨g1, cap1, rfl, hown1, hb1⟩
  have hb1' : Below w.heap.size w w1 := (((Below.refl _ _).alloc (Nat.le_refl _) _).alloc (by simp) _).trans (hb1.mono (by omega))
  have hown : w1.ownsRow (w.heap.size + 2) 5 1 (.slice (some ⟨g1, 0, none⟩) 2 cap1) 2 [.int .u8 20, .int .u8 (ns % 16)] := hown1
  clear hown1 hb1
  go_wp2
  go_ret
  exact ⟨g1, cap1, rfl, ⟨hown.cellAt 0 (by omega), hown.cellAt 1 (by omega)⟩, hb1'⟩

/-- The law, Teardown set. -/
theorem law_yes (ns : Int) (w : World) (h0 : 0 ≤ ns) (h1 : ns ≤ 255) :
    Calls Try.prog 6 #[.int .u8 ns, .bool true] w fun e w' => e = .returned (.bool true) ∧ Below w.heap.size w w' := by
  go_enter Try.func6, Try.ntmps6
  go_wp2_with fail
  refine (ies_yes ns _ h0 h1).mono ?_
  rintro e w1 ⟨g, cap, rfl, ⟨c0, c1, c2, c3⟩, hb⟩
  have hb1 : Below w.heap.size w w1 := ((Below.refl _ _).alloc (Nat.le_refl _) _).trans (hb.mono (by simp))
  clear hb
  go_wp2
  refine wp_loop_rounds 3 ?_
  rw [rounds_succ]
  go_wp2
  rw [rounds_succ]
  go_wp2
  rw [rounds_succ]
  go_wp2
  go_ret
  exact ⟨rfl, hb1⟩
/-- The law, Teardown not set. -/
theorem law_no (ns : Int) (w : World) (h0 : 0 ≤ ns) (h1 : ns ≤ 255) :
    Calls Try.prog 6 #[.int .u8 ns, .bool false] w fun e w' => e = .returned (.bool true) ∧ Below w.heap.size w w' := by
  go_enter Try.func6, Try.ntmps6
  go_wp2_with fail
  refine (ies_no ns _ h0 h1).mono ?_
  rintro e w1 ⟨g, cap, rfl, ⟨c0, c1⟩, hb⟩
  have hb1 : Below w.heap.size w w1 := ((Below.refl _ _).alloc (Nat.le_refl _) _).trans (hb.mono (by simp))
  clear hb
  go_wp2
  refine wp_loop_rounds 2 ?_
  rw [rounds_succ]
  go_wp2
  rw [rounds_succ]
  go_wp2
  go_ret
  exact ⟨rfl, hb1⟩
end Go.Proofs.Qxb6603245a.tv

import Derived.Test.Qxb6602835aHeadLies
import Derived.WalkSmall
namespace Go.Proofs.Qxb6602835a.head
open Go.ChangeShapes Go.WideShapes Go.ChangeAt Go.RowKit

set_option maxHeartbeats 800000 in
theorem law0 (m a : Int) (ai : Option Addr) (len cap : Nat) (zs : List Int) (w : World) (m0 : 0 ≤ m) (m1 : m ≤ 7) (a0 : 0 ≤ a) (a1 : a ≤ 23) (hb : len ≤ 1048576)
    (h : (ai = none ∧ len = 0 ∧ cap = 0 ∧ zs = []) ∨ ∃ x, ai = some x ∧ len ≤ cap ∧ cap ≤ maxLen ∧ zs.length = cap ∧ (∀ i, i < zs.length → w.cell? (x.add i) = some (.int .u8 (zs.getD i 0))) ∧ ∀ n ∈ zs, (Lit.int .u8 n).wf = true) :
    Calls Try.prog 3 #[.int .u8 m, .int .u64 a, .int .u8 0, .slice ai len cap] w fun e w' => e = .returned (.bool true) ∧ Below w.heap.size w w' := by
  have H : Hid ((ai = none ∧ len = 0 ∧ cap = 0 ∧ zs = []) ∨ ∃ x, ai = some x ∧ len ≤ cap ∧ cap ≤ maxLen ∧ zs.length = cap ∧ (∀ i, i < zs.length → w.cell? (x.add i) = some (.int .u8 (zs.getD i 0))) ∧ ∀ n ∈ zs, (Lit.int .u8 n).wf = true) := h
  clear h
  obtain ⟨i0, hi, hz0, hz1, hz2⟩ := info_parts info5
  have h23 : a ≤ 23 := a1
  go_enter Try.func3, Try.ntmps3
  go_wp2_with fail
  refine (zzb_yes _ _ _ _ _ _ hb _).mono ?_
  rintro e w' ⟨rfl, rfl⟩
  go_wp2_with fail
  refine (clone_any _ _ _ zs _ hb H.out).mono ?_
  rintro e w1 ⟨ao, c, xs, rfl, hli, hbel⟩
  clear H
  go_wp2_with fail
  refine (enc0 m a _ m0 m1 a0 a1).mono ?_
  rintro e w2 ⟨rfl, hw2⟩
  have hle : Lies w2 (some ⟨w1.heap.size, 0, none⟩) 1 1 (([m * 32 + a] : List Int).map (Value.int .u8)) := by rw [hw2]; exact Lies.laid w1 [m * 32 + a]
  have hb2 : Below w1.heap.size w1 w2 := by rw [hw2]; exact (Below.refl _ _).alloc (Nat.le_refl _) _
  have hs1 := hbel.size
  have hs2 := hb2.size
  clear hw2
  go_wp2_with (at_make; refine wpList_make_own _ rfl _ _ 23 rfl w.heap.size 5 i0 (.int .u8 0) 1 Try.underlying23 hi hz0 hz1 _ _ _ (1 + len) rfl rfl (by omega) ?b2 ?b3 ?b4 ?_)
  case b2 => rw [hz2]; omega
  case b3 => unfold maxLen; omega
  case b4 => omega
  intro w3 hown3 hgrow3
  have hb3 : Below w2.heap.size w2 w3 := (Below.refl _ _).grown hgrow3 (Nat.le_refl _) (fun k h => by cases h)
  have hle3 := hle.below hb3
  have hcl3 := hle3.cells _ rfl
  have hone := hle3.1.2
  have HC : Hid (∀ j u, ((([m * 32 + a] : List Int).map (Value.int .u8)))[j]? = some u → w3.cell? (Addr.add ⟨w1.heap.size, 0, none⟩ j) = some u) := hcl3
  have HO : Hid (∀ u ∈ (([m * 32 + a] : List Int).map (Value.int .u8)), u.oneCell' = true) := hone
  clear hcl3 hone
  go_wp2_with (at_builtin; refine wpList_append_fits _ rfl (.tmp 62) (.tmp 63) 23 rfl w.heap.size 5 i0 1 Try.underlying23 hi hz1 w2.heap.size 0 (1 + len) [] rfl hown3 ⟨w1.heap.size, 0, none⟩ 1 1 (([m * 32 + a] : List Int).map (Value.int .u8)) rfl rfl HC.out HO.out (by omega) ?_)
  intro w4 hown4 hgrow4
  have hs3 := hb3.size
  have hb4 : Below w2.heap.size w2 w4 := hb3.grown hgrow4 hs3 (fun k h => by cases h; exact Nat.le_refl _)
  have hli4 := (hli.below hb2).below hb4
  clear HC HO hown3 hle hle3 hli
  have HN : Hid (ao = none → len = 0 ∧ c = 0) := hli4.2.1
  have HC : Hid (∀ ad, ao = some ad → ∀ j u, xs[j]? = some u → w4.cell? (ad.add j) = some u) := hli4.cells
  have HO : Hid (∀ u ∈ xs, u.oneCell' = true) := hli4.1.2
  have HL : Hid (xs.length = len * 1) := by have := hli4.1.1; show xs.length = len * 1; omega
  clear hli4
  go_wp2_with (at_builtin; refine wpList_append_fits_any _ rfl (.tmp 65) (.tmp 66) 23 rfl w.heap.size 5 i0 1 Try.underlying23 hi hz1 w2.heap.size 1 (1 + len) (([m * 32 + a] : List Int).map (Value.int .u8)) rfl hown4 ao len c xs rfl HL.out HN.out HC.out HO.out (by omega) ?_)
  intro w5 hown5 hgrow5
  have hs4 := hb4.size
  have hb5 : Below w.heap.size w w5 := ((hbel.trans (hb2.mono hs1)).trans (hb4.mono (Nat.le_trans hs1 hs2))).grown hgrow5 (by omega) (fun k h => by cases h; omega)
  have c0 : w5.cell? ⟨w2.heap.size, 0, none⟩ = some (.int .u8 (m * 32 + a)) := hown5.cellAt 0 (by omega)
  have HH : Hid (Calls Try.prog 10 #[.slice (some ⟨w2.heap.size, 0, none⟩) (1 + len) (1 + len)] w5 fun e w' => e = .returned (.tuple #[.int .u8 m, .int .u64 a, .int .i64 1]) ∧ ∃ q, w' = w5.drewN q) :=
    zz_head _ _ _ m a 1 w5 (head0 m a w5 w2.heap.size (1 + len) (1 + len) m0 m1 a0 a1 (by omega) c0)
  clear HC HO HN HL hown4 hown5 hgrow3 hgrow4 hgrow5 c0
  go_wp2_with fail
  refine HH.out.mono ?_
  rintro e w6 ⟨rfl, q, rfl⟩
  go_wp2
  go_ret
  exact ⟨rfl, below_drewN hb5 q⟩

set_option maxHeartbeats 800000 in
theorem law1 (m a : Int) (ai : Option Addr) (len cap : Nat) (zs : List Int) (w : World) (m0 : 0 ≤ m) (m1 : m ≤ 7) (a0 : 0 ≤ a) (a1 : a < 256) (hb : len ≤ 1048576)
    (h : (ai = none ∧ len = 0 ∧ cap = 0 ∧ zs = []) ∨ ∃ x, ai = some x ∧ len ≤ cap ∧ cap ≤ maxLen ∧ zs.length = cap ∧ (∀ i, i < zs.length → w.cell? (x.add i) = some (.int .u8 (zs.getD i 0))) ∧ ∀ n ∈ zs, (Lit.int .u8 n).wf = true) :
    Calls Try.prog 3 #[.int .u8 m, .int .u64 a, .int .u8 1, .slice ai len cap] w fun e w' => e = .returned (.bool true) ∧ Below w.heap.size w w' := by
  have H : Hid ((ai = none ∧ len = 0 ∧ cap = 0 ∧ zs = []) ∨ ∃ x, ai = some x ∧ len ≤ cap ∧ cap ≤ maxLen ∧ zs.length = cap ∧ (∀ i, i < zs.length → w.cell? (x.add i) = some (.int .u8 (zs.getD i 0))) ∧ ∀ n ∈ zs, (Lit.int .u8 n).wf = true) := h
  clear h
  obtain ⟨i0, hi, hz0, hz1, hz2⟩ := info_parts info5
  have hsh : a / 256 = 0 := by omega
  go_enter Try.func3, Try.ntmps3
  go_wp2_with fail
  refine (zzb_yes _ _ _ _ _ _ hb _).mono ?_
  rintro e w' ⟨rfl, rfl⟩
  go_wp2_with fail
  refine (clone_any _ _ _ zs _ hb H.out).mono ?_
  rintro e w1 ⟨ao, c, xs, rfl, hli, hbel⟩
  clear H
  go_wp2_with fail
  refine (enc1 m a _ m0 m1 a0 a1).mono ?_
  rintro e w2 ⟨rfl, hw2⟩
  have hle : Lies w2 (some ⟨w1.heap.size, 0, none⟩) 2 2 (([m * 32 + 24, a] : List Int).map (Value.int .u8)) := by rw [hw2]; exact Lies.laid w1 [m * 32 + 24, a]
  have hb2 : Below w1.heap.size w1 w2 := by rw [hw2]; exact (Below.refl _ _).alloc (Nat.le_refl _) _
  have hs1 := hbel.size
  have hs2 := hb2.size
  clear hw2
  go_wp2_with (at_make; refine wpList_make_own _ rfl _ _ 23 rfl w.heap.size 5 i0 (.int .u8 0) 1 Try.underlying23 hi hz0 hz1 _ _ _ (2 + len) rfl rfl (by omega) ?b2 ?b3 ?b4 ?_)
  case b2 => rw [hz2]; omega
  case b3 => unfold maxLen; omega
  case b4 => omega
  intro w3 hown3 hgrow3
  have hb3 : Below w2.heap.size w2 w3 := (Below.refl _ _).grown hgrow3 (Nat.le_refl _) (fun k h => by cases h)
  have hle3 := hle.below hb3
  have hcl3 := hle3.cells _ rfl
  have hone := hle3.1.2
  have HC : Hid (∀ j u, ((([m * 32 + 24, a] : List Int).map (Value.int .u8)))[j]? = some u → w3.cell? (Addr.add ⟨w1.heap.size, 0, none⟩ j) = some u) := hcl3
  have HO : Hid (∀ u ∈ (([m * 32 + 24, a] : List Int).map (Value.int .u8)), u.oneCell' = true) := hone
  clear hcl3 hone
  go_wp2_with (at_builtin; refine wpList_append_fits _ rfl (.tmp 62) (.tmp 63) 23 rfl w.heap.size 5 i0 1 Try.underlying23 hi hz1 w2.heap.size 0 (2 + len) [] rfl hown3 ⟨w1.heap.size, 0, none⟩ 2 2 (([m * 32 + 24, a] : List Int).map (Value.int .u8)) rfl rfl HC.out HO.out (by omega) ?_)
  intro w4 hown4 hgrow4
  have hs3 := hb3.size
  have hb4 : Below w2.heap.size w2 w4 := hb3.grown hgrow4 hs3 (fun k h => by cases h; exact Nat.le_refl _)
  have hli4 := (hli.below hb2).below hb4
  clear HC HO hown3 hle hle3 hli
  have HN : Hid (ao = none → len = 0 ∧ c = 0) := hli4.2.1
  have HC : Hid (∀ ad, ao = some ad → ∀ j u, xs[j]? = some u → w4.cell? (ad.add j) = some u) := hli4.cells
  have HO : Hid (∀ u ∈ xs, u.oneCell' = true) := hli4.1.2
  have HL : Hid (xs.length = len * 1) := by have := hli4.1.1; show xs.length = len * 1; omega
  clear hli4
  go_wp2_with (at_builtin; refine wpList_append_fits_any _ rfl (.tmp 65) (.tmp 66) 23 rfl w.heap.size 5 i0 1 Try.underlying23 hi hz1 w2.heap.size 2 (2 + len) (([m * 32 + 24, a] : List Int).map (Value.int .u8)) rfl hown4 ao len c xs rfl HL.out HN.out HC.out HO.out (by omega) ?_)
  intro w5 hown5 hgrow5
  have hs4 := hb4.size
  have hb5 : Below w.heap.size w w5 := ((hbel.trans (hb2.mono hs1)).trans (hb4.mono (Nat.le_trans hs1 hs2))).grown hgrow5 (by omega) (fun k h => by cases h; omega)
  have c0 : w5.cell? ⟨w2.heap.size, 0, none⟩ = some (.int .u8 (m * 32 + 24)) := hown5.cellAt 0 (by omega)
  have c1 : w5.cell? ⟨w2.heap.size, 1, none⟩ = some (.int .u8 (a)) := hown5.cellAt 1 (by omega)
  have HH : Hid (Calls Try.prog 10 #[.slice (some ⟨w2.heap.size, 0, none⟩) (2 + len) (2 + len)] w5 fun e w' => e = .returned (.tuple #[.int .u8 m, .int .u64 a, .int .i64 2]) ∧ ∃ q, w' = w5.drewN q) :=
    zz_head _ _ _ m a 2 w5 (head1 m a w5 w2.heap.size (2 + len) (2 + len) m0 m1 a0 a1 (by omega) (Nat.le_refl _) (by unfold maxLen; omega) c0 c1)
  clear HC HO HN HL hown4 hown5 hgrow3 hgrow4 hgrow5 c0 c1
  go_wp2_with fail
  refine HH.out.mono ?_
  rintro e w6 ⟨rfl, q, rfl⟩
  go_wp2
  go_ret
  exact ⟨rfl, below_drewN hb5 q⟩

set_option maxHeartbeats 800000 in
theorem law2 (m a : Int) (ai : Option Addr) (len cap : Nat) (zs : List Int) (w : World) (m0 : 0 ≤ m) (m1 : m ≤ 7) (a0 : 0 ≤ a) (a1 : a < 65536) (hb : len ≤ 1048576)
    (h : (ai = none ∧ len = 0 ∧ cap = 0 ∧ zs = []) ∨ ∃ x, ai = some x ∧ len ≤ cap ∧ cap ≤ maxLen ∧ zs.length = cap ∧ (∀ i, i < zs.length → w.cell? (x.add i) = some (.int .u8 (zs.getD i 0))) ∧ ∀ n ∈ zs, (Lit.int .u8 n).wf = true) :
    Calls Try.prog 3 #[.int .u8 m, .int .u64 a, .int .u8 2, .slice ai len cap] w fun e w' => e = .returned (.bool true) ∧ Below w.heap.size w w' := by
  have H : Hid ((ai = none ∧ len = 0 ∧ cap = 0 ∧ zs = []) ∨ ∃ x, ai = some x ∧ len ≤ cap ∧ cap ≤ maxLen ∧ zs.length = cap ∧ (∀ i, i < zs.length → w.cell? (x.add i) = some (.int .u8 (zs.getD i 0))) ∧ ∀ n ∈ zs, (Lit.int .u8 n).wf = true) := h
  clear h
  obtain ⟨i0, hi, hz0, hz1, hz2⟩ := info_parts info5
  have hsh : a / 65536 = 0 := by omega
  go_enter Try.func3, Try.ntmps3
  go_wp2_with fail
  refine (zzb_yes _ _ _ _ _ _ hb _).mono ?_
  rintro e w' ⟨rfl, rfl⟩
  go_wp2_with fail
  refine (clone_any _ _ _ zs _ hb H.out).mono ?_
  rintro e w1 ⟨ao, c, xs, rfl, hli, hbel⟩
  clear H
  go_wp2_with fail
  refine (enc2 m a _ m0 m1 a0 a1).mono ?_
  rintro e w2 ⟨rfl, hw2⟩
  have hle : Lies w2 (some ⟨w1.heap.size, 0, none⟩) 3 3 (([m * 32 + 25, a / 256, a % 256] : List Int).map (Value.int .u8)) := by rw [hw2]; exact Lies.laid w1 [m * 32 + 25, a / 256, a % 256]
  have hb2 : Below w1.heap.size w1 w2 := by rw [hw2]; exact (Below.refl _ _).alloc (Nat.le_refl _) _
  have hs1 := hbel.size
  have hs2 := hb2.size
  clear hw2
  go_wp2_with (at_make; refine wpList_make_own _ rfl _ _ 23 rfl w.heap.size 5 i0 (.int .u8 0) 1 Try.underlying23 hi hz0 hz1 _ _ _ (3 + len) rfl rfl (by omega) ?b2 ?b3 ?b4 ?_)
  case b2 => rw [hz2]; omega
  case b3 => unfold maxLen; omega
  case b4 => omega
  intro w3 hown3 hgrow3
  have hb3 : Below w2.heap.size w2 w3 := (Below.refl _ _).grown hgrow3 (Nat.le_refl _) (fun k h => by cases h)
  have hle3 := hle.below hb3
  have hcl3 := hle3.cells _ rfl
  have hone := hle3.1.2
  have HC : Hid (∀ j u, ((([m * 32 + 25, a / 256, a % 256] : List Int).map (Value.int .u8)))[j]? = some u → w3.cell? (Addr.add ⟨w1.heap.size, 0, none⟩ j) = some u) := hcl3
  have HO : Hid (∀ u ∈ (([m * 32 + 25, a / 256, a % 256] : List Int).map (Value.int .u8)), u.oneCell' = true) := hone
  clear hcl3 hone
  go_wp2_with (at_builtin; refine wpList_append_fits _ rfl (.tmp 62) (.tmp 63) 23 rfl w.heap.size 5 i0 1 Try.underlying23 hi hz1 w2.heap.size 0 (3 + len) [] rfl hown3 ⟨w1.heap.size, 0, none⟩ 3 3 (([m * 32 + 25, a / 256, a % 256] : List Int).map (Value.int .u8)) rfl rfl HC.out HO.out (by omega) ?_)
  intro w4 hown4 hgrow4
  have hs3 := hb3.size
  have hb4 : Below w2.heap.size w2 w4 := hb3.grown hgrow4 hs3 (fun k h => by cases h; exact Nat.le_refl _)
  have hli4 := (hli.below hb2).below hb4
  clear HC HO hown3 hle hle3 hli
  have HN : Hid (ao = none → len = 0 ∧ c = 0) := hli4.2.1
  have HC : Hid (∀ ad, ao = some ad → ∀ j u, xs[j]? = some u → w4.cell? (ad.add j) = some u) := hli4.cells
  have HO : Hid (∀ u ∈ xs, u.oneCell' = true) := hli4.1.2
  have HL : Hid (xs.length = len * 1) := by have := hli4.1.1; show xs.length = len * 1; omega
  clear hli4
  go_wp2_with (at_builtin; refine wpList_append_fits_any _ rfl (.tmp 65) (.tmp 66) 23 rfl w.heap.size 5 i0 1 Try.underlying23 hi hz1 w2.heap.size 3 (3 + len) (([m * 32 + 25, a / 256, a % 256] : List Int).map (Value.int .u8)) rfl hown4 ao len c xs rfl HL.out HN.out HC.out HO.out (by omega) ?_)
  intro w5 hown5 hgrow5
  have hs4 := hb4.size
  have hb5 : Below w.heap.size w w5 := ((hbel.trans (hb2.mono hs1)).trans (hb4.mono (Nat.le_trans hs1 hs2))).grown hgrow5 (by omega) (fun k h => by cases h; omega)
  have c0 : w5.cell? ⟨w2.heap.size, 0, none⟩ = some (.int .u8 (m * 32 + 25)) := hown5.cellAt 0 (by omega)
  have c1 : w5.cell? ⟨w2.heap.size, 1, none⟩ = some (.int .u8 (a / 256)) := hown5.cellAt 1 (by omega)
  have c2 : w5.cell? ⟨w2.heap.size, 2, none⟩ = some (.int .u8 (a % 256)) := hown5.cellAt 2 (by omega)
  have HH : Hid (Calls Try.prog 10 #[.slice (some ⟨w2.heap.size, 0, none⟩) (3 + len) (3 + len)] w5 fun e w' => e = .returned (.tuple #[.int .u8 m, .int .u64 a, .int .i64 3]) ∧ ∃ q, w' = w5.drewN q) :=
    zz_head _ _ _ m a 3 w5 (head2 m a w5 w2.heap.size (3 + len) (3 + len) m0 m1 a0 a1 (by omega) (Nat.le_refl _) (by unfold maxLen; omega) c0 c1 c2)
  clear HC HO HN HL hown4 hown5 hgrow3 hgrow4 hgrow5 c0 c1 c2
  go_wp2_with fail
  refine HH.out.mono ?_
  rintro e w6 ⟨rfl, q, rfl⟩
  go_wp2
  go_ret
  exact ⟨rfl, below_drewN hb5 q⟩

set_option maxHeartbeats 800000 in
theorem law3 (m a : Int) (ai : Option Addr) (len cap : Nat) (zs : List Int) (w : World) (m0 : 0 ≤ m) (m1 : m ≤ 7) (a0 : 0 ≤ a) (a1 : a < 4294967296) (hb : len ≤ 1048576)
    (h : (ai = none ∧ len = 0 ∧ cap = 0 ∧ zs = []) ∨ ∃ x, ai = some x ∧ len ≤ cap ∧ cap ≤ maxLen ∧ zs.length = cap ∧ (∀ i, i < zs.length → w.cell? (x.add i) = some (.int .u8 (zs.getD i 0))) ∧ ∀ n ∈ zs, (Lit.int .u8 n).wf = true) :
    Calls Try.prog 3 #[.int .u8 m, .int .u64 a, .int .u8 3, .slice ai len cap] w fun e w' => e = .returned (.bool true) ∧ Below w.heap.size w w' := by
  have H : Hid ((ai = none ∧ len = 0 ∧ cap = 0 ∧ zs = []) ∨ ∃ x, ai = some x ∧ len ≤ cap ∧ cap ≤ maxLen ∧ zs.length = cap ∧ (∀ i, i < zs.length → w.cell? (x.add i) = some (.int .u8 (zs.getD i 0))) ∧ ∀ n ∈ zs, (Lit.int .u8 n).wf = true) := h
  clear h
  obtain ⟨i0, hi, hz0, hz1, hz2⟩ := info_parts info5
  have hsh : a / 4294967296 = 0 := by omega
  go_enter Try.func3, Try.ntmps3
  go_wp2_with fail
  refine (zzb_yes _ _ _ _ _ _ hb _).mono ?_
  rintro e w' ⟨rfl, rfl⟩
  go_wp2_with fail
  refine (clone_any _ _ _ zs _ hb H.out).mono ?_
  rintro e w1 ⟨ao, c, xs, rfl, hli, hbel⟩
  clear H
  go_wp2_with fail
  refine (enc3 m a _ m0 m1 a0 a1).mono ?_
  rintro e w2 ⟨rfl, hw2⟩
  have hle : Lies w2 (some ⟨w1.heap.size, 0, none⟩) 5 5 (([m * 32 + 26, a / 16777216, a / 65536 % 256, a / 256 % 256, a % 256] : List Int).map (Value.int .u8)) := by rw [hw2]; exact Lies.laid w1 [m * 32 + 26, a / 16777216, a / 65536 % 256, a / 256 % 256, a % 256]
  have hb2 : Below w1.heap.size w1 w2 := by rw [hw2]; exact (Below.refl _ _).alloc (Nat.le_refl _) _
  have hs1 := hbel.size
  have hs2 := hb2.size
  clear hw2
  go_wp2_with (at_make; refine wpList_make_own _ rfl _ _ 23 rfl w.heap.size 5 i0 (.int .u8 0) 1 Try.underlying23 hi hz0 hz1 _ _ _ (5 + len) rfl rfl (by omega) ?b2 ?b3 ?b4 ?_)
  case b2 => rw [hz2]; omega
  case b3 => unfold maxLen; omega
  case b4 => omega
  intro w3 hown3 hgrow3
  have hb3 : Below w2.heap.size w2 w3 := (Below.refl _ _).grown hgrow3 (Nat.le_refl _) (fun k h => by cases h)
  have hle3 := hle.below hb3
  have hcl3 := hle3.cells _ rfl
  have hone := hle3.1.2
  have HC : Hid (∀ j u, ((([m * 32 + 26, a / 16777216, a / 65536 % 256, a / 256 % 256, a % 256] : List Int).map (Value.int .u8)))[j]? = some u → w3.cell? (Addr.add ⟨w1.heap.size, 0, none⟩ j) = some u) := hcl3
  have HO : Hid (∀ u ∈ (([m * 32 + 26, a / 16777216, a / 65536 % 256, a / 256 % 256, a % 256] : List Int).map (Value.int .u8)), u.oneCell' = true) := hone
  clear hcl3 hone
  go_wp2_with (at_builtin; refine wpList_append_fits _ rfl (.tmp 62) (.tmp 63) 23 rfl w.heap.size 5 i0 1 Try.underlying23 hi hz1 w2.heap.size 0 (5 + len) [] rfl hown3 ⟨w1.heap.size, 0, none⟩ 5 5 (([m * 32 + 26, a / 16777216, a / 65536 % 256, a / 256 % 256, a % 256] : List Int).map (Value.int .u8)) rfl rfl HC.out HO.out (by omega) ?_)
  intro w4 hown4 hgrow4
  have hs3 := hb3.size
  have hb4 : Below w2.heap.size w2 w4 := hb3.grown hgrow4 hs3 (fun k h => by cases h; exact Nat.le_refl _)
  have hli4 := (hli.below hb2).below hb4
  clear HC HO hown3 hle hle3 hli
  have HN : Hid (ao = none → len = 0 ∧ c = 0) := hli4.2.1
  have HC : Hid (∀ ad, ao = some ad → ∀ j u, xs[j]? = some u → w4.cell? (ad.add j) = some u) := hli4.cells
  have HO : Hid (∀ u ∈ xs, u.oneCell' = true) := hli4.1.2
  have HL : Hid (xs.length = len * 1) := by have := hli4.1.1; show xs.length = len * 1; omega
  clear hli4
  go_wp2_with (at_builtin; refine wpList_append_fits_any _ rfl (.tmp 65) (.tmp 66) 23 rfl w.heap.size 5 i0 1 Try.underlying23 hi hz1 w2.heap.size 5 (5 + len) (([m * 32 + 26, a / 16777216, a / 65536 % 256, a / 256 % 256, a % 256] : List Int).map (Value.int .u8)) rfl hown4 ao len c xs rfl HL.out HN.out HC.out HO.out (by omega) ?_)
  intro w5 hown5 hgrow5
  have hs4 := hb4.size
  have hb5 : Below w.heap.size w w5 := ((hbel.trans (hb2.mono hs1)).trans (hb4.mono (Nat.le_trans hs1 hs2))).grown hgrow5 (by omega) (fun k h => by cases h; omega)
  have c0 : w5.cell? ⟨w2.heap.size, 0, none⟩ = some (.int .u8 (m * 32 + 26)) := hown5.cellAt 0 (by omega)
  have c1 : w5.cell? ⟨w2.heap.size, 1, none⟩ = some (.int .u8 (a / 16777216)) := hown5.cellAt 1 (by omega)
  have c2 : w5.cell? ⟨w2.heap.size, 2, none⟩ = some (.int .u8 (a / 65536 % 256)) := hown5.cellAt 2 (by omega)
  have c3 : w5.cell? ⟨w2.heap.size, 3, none⟩ = some (.int .u8 (a / 256 % 256)) := hown5.cellAt 3 (by omega)
  have c4 : w5.cell? ⟨w2.heap.size, 4, none⟩ = some (.int .u8 (a % 256)) := hown5.cellAt 4 (by omega)
  have HH : Hid (Calls Try.prog 10 #[.slice (some ⟨w2.heap.size, 0, none⟩) (5 + len) (5 + len)] w5 fun e w' => e = .returned (.tuple #[.int .u8 m, .int .u64 a, .int .i64 5]) ∧ ∃ q, w' = w5.drewN q) :=
    zz_head _ _ _ m a 5 w5 (head3 m a w5 w2.heap.size (5 + len) (5 + len) m0 m1 a0 a1 (by omega) (Nat.le_refl _) (by unfold maxLen; omega) c0 c1 c2 c3 c4)
  clear HC HO HN HL hown4 hown5 hgrow3 hgrow4 hgrow5 c0 c1 c2 c3 c4
  go_wp2_with fail
  refine HH.out.mono ?_
  rintro e w6 ⟨rfl, q, rfl⟩
  go_wp2
  go_ret
  exact ⟨rfl, below_drewN hb5 q⟩

set_option maxHeartbeats 800000 in
theorem law4 (m a : Int) (ai : Option Addr) (len cap : Nat) (zs : List Int) (w : World) (m0 : 0 ≤ m) (m1 : m ≤ 7) (a0 : 0 ≤ a) (a1 : a < 18446744073709551616) (hb : len ≤ 1048576)
    (h : (ai = none ∧ len = 0 ∧ cap = 0 ∧ zs = []) ∨ ∃ x, ai = some x ∧ len ≤ cap ∧ cap ≤ maxLen ∧ zs.length = cap ∧ (∀ i, i < zs.length → w.cell? (x.add i) = some (.int .u8 (zs.getD i 0))) ∧ ∀ n ∈ zs, (Lit.int .u8 n).wf = true) :
    Calls Try.prog 3 #[.int .u8 m, .int .u64 a, .int .u8 4, .slice ai len cap] w fun e w' => e = .returned (.bool true) ∧ Below w.heap.size w w' := by
  have H : Hid ((ai = none ∧ len = 0 ∧ cap = 0 ∧ zs = []) ∨ ∃ x, ai = some x ∧ len ≤ cap ∧ cap ≤ maxLen ∧ zs.length = cap ∧ (∀ i, i < zs.length → w.cell? (x.add i) = some (.int .u8 (zs.getD i 0))) ∧ ∀ n ∈ zs, (Lit.int .u8 n).wf = true) := h
  clear h
  obtain ⟨i0, hi, hz0, hz1, hz2⟩ := info_parts info5
  go_enter Try.func3, Try.ntmps3
  go_wp2_with fail
  refine (zzb_yes _ _ _ _ _ _ hb _).mono ?_
  rintro e w' ⟨rfl, rfl⟩
  go_wp2_with fail
  refine (clone_any _ _ _ zs _ hb H.out).mono ?_
  rintro e w1 ⟨ao, c, xs, rfl, hli, hbel⟩
  clear H
  go_wp2_with fail
  refine (enc4 m a _ m0 m1 a0 a1).mono ?_
  rintro e w2 ⟨rfl, hw2⟩
  have hle : Lies w2 (some ⟨w1.heap.size, 0, none⟩) 9 9 (([m * 32 + 27, a / 72057594037927936, a / 281474976710656 % 256, a / 1099511627776 % 256, a / 4294967296 % 256, a / 16777216 % 256, a / 65536 % 256, a / 256 % 256, a % 256] : List Int).map (Value.int .u8)) := by rw [hw2]; exact Lies.laid w1 [m * 32 + 27, a / 72057594037927936, a / 281474976710656 % 256, a / 1099511627776 % 256, a / 4294967296 % 256, a / 16777216 % 256, a / 65536 % 256, a / 256 % 256, a % 256]
  have hb2 : Below w1.heap.size w1 w2 := by rw [hw2]; exact (Below.refl _ _).alloc (Nat.le_refl _) _
  have hs1 := hbel.size
  have hs2 := hb2.size
  clear hw2
  go_wp2_with (at_make; refine wpList_make_own _ rfl _ _ 23 rfl w.heap.size 5 i0 (.int .u8 0) 1 Try.underlying23 hi hz0 hz1 _ _ _ (9 + len) rfl rfl (by omega) ?b2 ?b3 ?b4 ?_)
  case b2 => rw [hz2]; omega
  case b3 => unfold maxLen; omega
  case b4 => omega
  intro w3 hown3 hgrow3
  have hb3 : Below w2.heap.size w2 w3 := (Below.refl _ _).grown hgrow3 (Nat.le_refl _) (fun k h => by cases h)
  have hle3 := hle.below hb3
  have hcl3 := hle3.cells _ rfl
  have hone := hle3.1.2
  have HC : Hid (∀ j u, ((([m * 32 + 27, a / 72057594037927936, a / 281474976710656 % 256, a / 1099511627776 % 256, a / 4294967296 % 256, a / 16777216 % 256, a / 65536 % 256, a / 256 % 256, a % 256] : List Int).map (Value.int .u8)))[j]? = some u → w3.cell? (Addr.add ⟨w1.heap.size, 0, none⟩ j) = some u) := hcl3
  have HO : Hid (∀ u ∈ (([m * 32 + 27, a / 72057594037927936, a / 281474976710656 % 256, a / 1099511627776 % 256, a / 4294967296 % 256, a / 16777216 % 256, a / 65536 % 256, a / 256 % 256, a % 256] : List Int).map (Value.int .u8)), u.oneCell' = true) := hone
  clear hcl3 hone
  go_wp2_with (at_builtin; refine wpList_append_fits _ rfl (.tmp 62) (.tmp 63) 23 rfl w.heap.size 5 i0 1 Try.underlying23 hi hz1 w2.heap.size 0 (9 + len) [] rfl hown3 ⟨w1.heap.size, 0, none⟩ 9 9 (([m * 32 + 27, a / 72057594037927936, a / 281474976710656 % 256, a / 1099511627776 % 256, a / 4294967296 % 256, a / 16777216 % 256, a / 65536 % 256, a / 256 % 256, a % 256] : List Int).map (Value.int .u8)) rfl rfl HC.out HO.out (by omega) ?_)
  intro w4 hown4 hgrow4
  have hs3 := hb3.size
  have hb4 : Below w2.heap.size w2 w4 := hb3.grown hgrow4 hs3 (fun k h => by cases h; exact Nat.le_refl _)
  have hli4 := (hli.below hb2).below hb4
  clear HC HO hown3 hle hle3 hli
  have HN : Hid (ao = none → len = 0 ∧ c = 0) := hli4.2.1
  have HC : Hid (∀ ad, ao = some ad → ∀ j u, xs[j]? = some u → w4.cell? (ad.add j) = some u) := hli4.cells
  have HO : Hid (∀ u ∈ xs, u.oneCell' = true) := hli4.1.2
  have HL : Hid (xs.length = len * 1) := by have := hli4.1.1; show xs.length = len * 1; omega
  clear hli4
  go_wp2_with (at_builtin; refine wpList_append_fits_any _ rfl (.tmp 65) (.tmp 66) 23 rfl w.heap.size 5 i0 1 Try.underlying23 hi hz1 w2.heap.size 9 (9 + len) (([m * 32 + 27, a / 72057594037927936, a / 281474976710656 % 256, a / 1099511627776 % 256, a / 4294967296 % 256, a / 16777216 % 256, a / 65536 % 256, a / 256 % 256, a % 256] : List Int).map (Value.int .u8)) rfl hown4 ao len c xs rfl HL.out HN.out HC.out HO.out (by omega) ?_)
  intro w5 hown5 hgrow5
  have hs4 := hb4.size
  have hb5 : Below w.heap.size w w5 := ((hbel.trans (hb2.mono hs1)).trans (hb4.mono (Nat.le_trans hs1 hs2))).grown hgrow5 (by omega) (fun k h => by cases h; omega)
  have c0 : w5.cell? ⟨w2.heap.size, 0, none⟩ = some (.int .u8 (m * 32 + 27)) := hown5.cellAt 0 (by omega)
  have c1 : w5.cell? ⟨w2.heap.size, 1, none⟩ = some (.int .u8 (a / 72057594037927936)) := hown5.cellAt 1 (by omega)
  have c2 : w5.cell? ⟨w2.heap.size, 2, none⟩ = some (.int .u8 (a / 281474976710656 % 256)) := hown5.cellAt 2 (by omega)
  have c3 : w5.cell? ⟨w2.heap.size, 3, none⟩ = some (.int .u8 (a / 1099511627776 % 256)) := hown5.cellAt 3 (by omega)
  have c4 : w5.cell? ⟨w2.heap.size, 4, none⟩ = some (.int .u8 (a / 4294967296 % 256)) := hown5.cellAt 4 (by omega)
  have c5 : w5.cell? ⟨w2.heap.size, 5, none⟩ = some (.int .u8 (a / 16777216 % 256)) := hown5.cellAt 5 (by omega)
  have c6 : w5.cell? ⟨w2.heap.size, 6, none⟩ = some (.int .u8 (a / 65536 % 256)) := hown5.cellAt 6 (by omega)
  have c7 : w5.cell? ⟨w2.heap.size, 7, none⟩ = some (.int .u8 (a / 256 % 256)) := hown5.cellAt 7 (by omega)
  have c8 : w5.cell? ⟨w2.heap.size, 8, none⟩ = some (.int .u8 (a % 256)) := hown5.cellAt 8 (by omega)
  have HH : Hid (Calls Try.prog 10 #[.slice (some ⟨w2.heap.size, 0, none⟩) (9 + len) (9 + len)] w5 fun e w' => e = .returned (.tuple #[.int .u8 m, .int .u64 a, .int .i64 9]) ∧ ∃ q, w' = w5.drewN q) :=
    zz_head _ _ _ m a 9 w5 (head4 m a w5 w2.heap.size (9 + len) (9 + len) m0 m1 a0 a1 (by omega) (Nat.le_refl _) (by unfold maxLen; omega) c0 c1 c2 c3 c4 c5 c6 c7 c8)
  clear HC HO HN HL hown4 hown5 hgrow3 hgrow4 hgrow5 c0 c1 c2 c3 c4 c5 c6 c7 c8
  go_wp2_with fail
  refine HH.out.mono ?_
  rintro e w6 ⟨rfl, q, rfl⟩
  go_wp2
  go_ret
  exact ⟨rfl, below_drewN hb5 q⟩
end Go.Proofs.Qxb6602835a.head

import Derived.Test.Qxb6602835aHeadEnc
import Derived.Deep.QuietTactic
import Derived.BigQuiet
namespace Go.Proofs.Qxb6602835a.head
open Go.ChangeShapes Go.WideShapes Go.ChangeAt Go.RowKit

theorem wraps_u64 (n : Int) (h₀ : 0 ≤ n) (h₁ : n < 2 ^ 64) : IntKind.u64.wrap n = n := by rw [IntKind.wrap_u64]; omega
theorem or_next (x y : Int) (x0 : 0 ≤ x) (x1 : x < 72057594037927936) (y0 : 0 ≤ y) (y1 : y < 256) : bits .or .u64 (x * 256) y = x * 256 + y :=
  bits_join .u64 64 (by decide) wraps_u64 8 (x * 256) y (by omega) (by omega) (by omega) y0 (by omega) (by omega)
theorem or_none (y : Int) (y0 : 0 ≤ y) (y1 : y < 256) : bits .or .u64 0 y = y := by
  have := or_next 0 y (by omega) (by omega) y0 y1
  simpa using this

set_option maxHeartbeats 800000 in
theorem head0 (m a : Int) (w : World) (g n cap : Nat) (m0 : 0 ≤ m) (m1 : m ≤ 7) (a0 : 0 ≤ a) (a1 : a ≤ 23) (hn : 1 ≤ n) (c0 : w.cell? ⟨g, 0, none⟩ = some (.int .u8 (m * 32 + a))) :
    Calls Try.prog 12 #[.slice (some ⟨g, 0, none⟩) n cap] w fun e w' => e = .returned (.tuple #[.int .u8 m, .int .u64 a, .int .i64 1]) ∧ ∃ q, w' = w.drewN q := by
  have hl0 : (0 : Int) < (n : Int) := by omega
  have hsh : (m * 32 + a) / 32 = m := by omega
  have han : bits .and .u8 (m * 32 + a) 31 = a := by rw [u8_and31 _ (by omega) (by omega)]; omega
  go_enter Try.func12, Try.ntmps12
  go_wp2
  go_quiet (fail)
  go_wp2
  go_ret3
  exact ⟨rfl, _, rfl⟩

set_option maxHeartbeats 800000 in
theorem head1 (m a : Int) (w : World) (g n cap : Nat) (m0 : 0 ≤ m) (m1 : m ≤ 7) (a0 : 0 ≤ a) (a1 : a < 256) (hn : 2 ≤ n) (hnc : n ≤ cap) (hcap : cap ≤ maxLen)
    (c0 : w.cell? ⟨g, 0, none⟩ = some (.int .u8 (m * 32 + 24))) (c1 : w.cell? ⟨g, 1, none⟩ = some (.int .u8 (a))) :
    Calls Try.prog 12 #[.slice (some ⟨g, 0, none⟩) n cap] w fun e w' => e = .returned (.tuple #[.int .u8 m, .int .u64 a, .int .i64 2]) ∧ ∃ q, w' = w.drewN q := by
  unfold maxLen at hcap
  have hl0 : (0 : Int) < (n : Int) := by omega
  have hcb : (1 : Int) < (cap : Int) := by omega
  have hsh : (m * 32 + 24) / 32 = m := by omega
  have han : bits .and .u8 (m * 32 + 24) 31 = 24 := by rw [u8_and31 _ (by omega) (by omega)]; omega
  have o0 : bits .or .u64 0 (a) = a := or_none _ (by omega) (by omega)
  go_enter Try.func12, Try.ntmps12
  go_wp2
  go_quiet (fail)
  go_wp2
  refine wp_loop_rounds 2 ?_
  rw [rounds_succ]
  go_wp2
  rw [rounds_succ]
  go_wp2
  go_ret3
  exact ⟨rfl, _, rfl⟩

set_option maxHeartbeats 800000 in
theorem head2 (m a : Int) (w : World) (g n cap : Nat) (m0 : 0 ≤ m) (m1 : m ≤ 7) (a0 : 0 ≤ a) (a1 : a < 65536) (hn : 3 ≤ n) (hnc : n ≤ cap) (hcap : cap ≤ maxLen)
    (c0 : w.cell? ⟨g, 0, none⟩ = some (.int .u8 (m * 32 + 25))) (c1 : w.cell? ⟨g, 1, none⟩ = some (.int .u8 (a / 256))) (c2 : w.cell? ⟨g, 2, none⟩ = some (.int .u8 (a % 256))) :
    Calls Try.prog 12 #[.slice (some ⟨g, 0, none⟩) n cap] w fun e w' => e = .returned (.tuple #[.int .u8 m, .int .u64 a, .int .i64 3]) ∧ ∃ q, w' = w.drewN q := by
  unfold maxLen at hcap
  have hl0 : (0 : Int) < (n : Int) := by omega
  have hcb : (1 : Int) < (cap : Int) := by omega
  have hsh : (m * 32 + 25) / 32 = m := by omega
  have han : bits .and .u8 (m * 32 + 25) 31 = 25 := by rw [u8_and31 _ (by omega) (by omega)]; omega
  have o0 : bits .or .u64 0 (a / 256) = a / 256 := or_none _ (by omega) (by omega)
  have o1 : bits .or .u64 (a / 256 * 256) (a % 256) = a := by rw [or_next _ _ (by omega) (by omega) (by omega) (by omega)]; omega
  go_enter Try.func12, Try.ntmps12
  go_wp2
  go_quiet (fail)
  go_wp2
  refine wp_loop_rounds 3 ?_
  rw [rounds_succ]
  go_wp2
  rw [rounds_succ]
  go_wp2
  rw [rounds_succ]
  go_wp2
  go_ret3
  exact ⟨rfl, _, rfl⟩

set_option maxHeartbeats 800000 in
theorem head3 (m a : Int) (w : World) (g n cap : Nat) (m0 : 0 ≤ m) (m1 : m ≤ 7) (a0 : 0 ≤ a) (a1 : a < 4294967296) (hn : 5 ≤ n) (hnc : n ≤ cap) (hcap : cap ≤ maxLen)
    (c0 : w.cell? ⟨g, 0, none⟩ = some (.int .u8 (m * 32 + 26))) (c1 : w.cell? ⟨g, 1, none⟩ = some (.int .u8 (a / 16777216))) (c2 : w.cell? ⟨g, 2, none⟩ = some (.int .u8 (a / 65536 % 256))) (c3 : w.cell? ⟨g, 3, none⟩ = some (.int .u8 (a / 256 % 256))) (c4 : w.cell? ⟨g, 4, none⟩ = some (.int .u8 (a % 256))) :
    Calls Try.prog 12 #[.slice (some ⟨g, 0, none⟩) n cap] w fun e w' => e = .returned (.tuple #[.int .u8 m, .int .u64 a, .int .i64 5]) ∧ ∃ q, w' = w.drewN q := by
  unfold maxLen at hcap
  have hl0 : (0 : Int) < (n : Int) := by omega
  have hcb : (1 : Int) < (cap : Int) := by omega
  have hsh : (m * 32 + 26) / 32 = m := by omega
  have han : bits .and .u8 (m * 32 + 26) 31 = 26 := by rw [u8_and31 _ (by omega) (by omega)]; omega
  have o0 : bits .or .u64 0 (a / 16777216) = a / 16777216 := or_none _ (by omega) (by omega)
  have o1 : bits .or .u64 (a / 16777216 * 256) (a / 65536 % 256) = a / 65536 := by rw [or_next _ _ (by omega) (by omega) (by omega) (by omega)]; omega
  have o2 : bits .or .u64 (a / 65536 * 256) (a / 256 % 256) = a / 256 := by rw [or_next _ _ (by omega) (by omega) (by omega) (by omega)]; omega
  have o3 : bits .or .u64 (a / 256 * 256) (a % 256) = a := by rw [or_next _ _ (by omega) (by omega) (by omega) (by omega)]; omega
  go_enter Try.func12, Try.ntmps12
  go_wp2
  go_quiet (fail)
  go_wp2
  refine wp_loop_rounds 5 ?_
  rw [rounds_succ]
  go_wp2
  rw [rounds_succ]
  go_wp2
  rw [rounds_succ]
  go_wp2
  rw [rounds_succ]
  go_wp2
  rw [rounds_succ]
  go_wp2
  go_ret3
  exact ⟨rfl, _, rfl⟩

set_option maxHeartbeats 800000 in
theorem head4 (m a : Int) (w : World) (g n cap : Nat) (m0 : 0 ≤ m) (m1 : m ≤ 7) (a0 : 0 ≤ a) (a1 : a < 18446744073709551616) (hn : 9 ≤ n) (hnc : n ≤ cap) (hcap : cap ≤ maxLen)
    (c0 : w.cell? ⟨g, 0, none⟩ = some (.int .u8 (m * 32 + 27))) (c1 : w.cell? ⟨g, 1, none⟩ = some (.int .u8 (a / 72057594037927936))) (c2 : w.cell? ⟨g, 2, none⟩ = some (.int .u8 (a / 281474976710656 % 256))) (c3 : w.cell? ⟨g, 3, none⟩ = some (.int .u8 (a / 1099511627776 % 256))) (c4 : w.cell? ⟨g, 4, none⟩ = some (.int .u8 (a / 4294967296 % 256))) (c5 : w.cell? ⟨g, 5, none⟩ = some (.int .u8 (a / 16777216 % 256))) (c6 : w.cell? ⟨g, 6, none⟩ = some (.int .u8 (a / 65536 % 256))) (c7 : w.cell? ⟨g, 7, none⟩ = some (.int .u8 (a / 256 % 256))) (c8 : w.cell? ⟨g, 8, none⟩ = some (.int .u8 (a % 256))) :
    Calls Try.prog 12 #[.slice (some ⟨g, 0, none⟩) n cap] w fun e w' => e = .returned (.tuple #[.int .u8 m, .int .u64 a, .int .i64 9]) ∧ ∃ q, w' = w.drewN q := by
  unfold maxLen at hcap
  have hl0 : (0 : Int) < (n : Int) := by omega
  have hcb : (1 : Int) < (cap : Int) := by omega
  have hsh : (m * 32 + 27) / 32 = m := by omega
  have han : bits .and .u8 (m * 32 + 27) 31 = 27 := by rw [u8_and31 _ (by omega) (by omega)]; omega
  have o0 : bits .or .u64 0 (a / 72057594037927936) = a / 72057594037927936 := or_none _ (by omega) (by omega)
  have o1 : bits .or .u64 (a / 72057594037927936 * 256) (a / 281474976710656 % 256) = a / 281474976710656 := by rw [or_next _ _ (by omega) (by omega) (by omega) (by omega)]; omega
  have o2 : bits .or .u64 (a / 281474976710656 * 256) (a / 1099511627776 % 256) = a / 1099511627776 := by rw [or_next _ _ (by omega) (by omega) (by omega) (by omega)]; omega
  have o3 : bits .or .u64 (a / 1099511627776 * 256) (a / 4294967296 % 256) = a / 4294967296 := by rw [or_next _ _ (by omega) (by omega) (by omega) (by omega)]; omega
  have o4 : bits .or .u64 (a / 4294967296 * 256) (a / 16777216 % 256) = a / 16777216 := by rw [or_next _ _ (by omega) (by omega) (by omega) (by omega)]; omega
  have o5 : bits .or .u64 (a / 16777216 * 256) (a / 65536 % 256) = a / 65536 := by rw [or_next _ _ (by omega) (by omega) (by omega) (by omega)]; omega
  have o6 : bits .or .u64 (a / 65536 * 256) (a / 256 % 256) = a / 256 := by rw [or_next _ _ (by omega) (by omega) (by omega) (by omega)]; omega
  have o7 : bits .or .u64 (a / 256 * 256) (a % 256) = a := by rw [or_next _ _ (by omega) (by omega) (by omega) (by omega)]; omega
  go_enter Try.func12, Try.ntmps12
  go_wp2
  go_quiet (fail)
  go_wp2
  refine wp_loop_rounds 9 ?_
  rw [rounds_succ]
  go_wp2
  rw [rounds_succ]
  go_wp2
  rw [rounds_succ]
  go_wp2
  rw [rounds_succ]
  go_wp2
  rw [rounds_succ]
  go_wp2
  rw [rounds_succ]
  go_wp2
  rw [rounds_succ]
  go_wp2
  rw [rounds_succ]
  go_wp2
  rw [rounds_succ]
  go_wp2
  go_ret3
  exact ⟨rfl, _, rfl⟩

/-- ZZhead hands on what head answers. -/
theorem zz_head (ao : Option Addr) (n cap : Nat) (m a s : Int) (w : World)
    (h : Calls Try.prog 12 #[.slice ao n cap] w fun e w' => e = .returned (.tuple #[.int .u8 m, .int .u64 a, .int .i64 s]) ∧ ∃ q, w' = w.drewN q) :
    Calls Try.prog 10 #[.slice ao n cap] w fun e w' => e = .returned (.tuple #[.int .u8 m, .int .u64 a, .int .i64 s]) ∧ ∃ q, w' = w.drewN q := by
  have H : Hid (Calls Try.prog 12 #[.slice ao n cap] w fun e w' => e = .returned (.tuple #[.int .u8 m, .int .u64 a, .int .i64 s]) ∧ ∃ q, w' = w.drewN q) := h
  clear h
  go_enter Try.func10, Try.ntmps10
  go_wp2_with fail
  refine H.out.mono ?_
  rintro e w' ⟨rfl, q, rfl⟩
  go_wp2
  go_ret3
  exact ⟨rfl, q, rfl⟩
end Go.Proofs.Qxb6602835a.head

import Derived.Test.Qxb6602835aHeadClone
import Derived.LoopN
namespace Go.Proofs.Qxb6602835a.head
open Go.ChangeShapes Go.WideShapes Go.ChangeAt Go.RowKit

/-- The first byte of a head: the major type in the three high bits, the rest below. -/
theorem or_head (m i : Int) (m0 : 0 ≤ m) (m1 : m ≤ 7) (i0 : 0 ≤ i) (i1 : i < 32) : bits .or .u8 (m * 32) i = m * 32 + i :=
  bits_join .u8 8 (by decide) wraps_u8 5 (m * 32) i (by omega) (by omega) (by omega) i0 (by omega) (by omega)

/-- encodeHead, a theorem a width. -/
theorem enc0 (m a : Int) (w : World) (m0 : 0 ≤ m) (m1 : m ≤ 7) (a0 : 0 ≤ a) (a1 : a ≤ 23) :
    Calls Try.prog 9 #[.int .u8 m, .int .u64 a, .int .u8 0] w fun e w' => e = .returned (.slice (some ⟨w.heap.size, 0, none⟩) 1 1) ∧ w' = w.alloc (.cells #[.int .u8 (m * 32 + a)] 5) := by
  have hor : bits .or .u8 (m * 32) a = m * 32 + a := or_head m a m0 m1 a0 (by omega)
  go_enter Try.func9, Try.ntmps9
  go_wp2
  go_ret
  exact ⟨rfl, rfl⟩

theorem enc1 (m a : Int) (w : World) (m0 : 0 ≤ m) (m1 : m ≤ 7) (a0 : 0 ≤ a) (a1 : a < 256) :
    Calls Try.prog 9 #[.int .u8 m, .int .u64 a, .int .u8 1] w fun e w' => e = .returned (.slice (some ⟨w.heap.size, 0, none⟩) 2 2) ∧ w' = w.alloc (.cells #[.int .u8 (m * 32 + 24), .int .u8 (a)] 5) := by
  have hmk : ∀ w : World, (Instr.makeSlice 23 (.int .i64 2) (.int .i64 2)).run Try.prog w = .ok (.slice (some ⟨w.heap.size, 0, none⟩) 2 2) (w.alloc (.cells #[.int .u8 0, .int .u8 0] 5)) := fun _ => by kernel_rfl
  have hor : bits .or .u8 (m * 32) 24 = m * 32 + 24 := or_head m 24 m0 m1 (by omega) (by omega)
  go_enter Try.func9, Try.ntmps9
  go_wp2
  refine wp_loop_rounds 2 ?_
  rw [rounds_succ]
  go_wp2
  rw [rounds_succ]
  go_wp2
  go_ret
  exact ⟨rfl, rfl⟩

theorem enc2 (m a : Int) (w : World) (m0 : 0 ≤ m) (m1 : m ≤ 7) (a0 : 0 ≤ a) (a1 : a < 65536) :
    Calls Try.prog 9 #[.int .u8 m, .int .u64 a, .int .u8 2] w fun e w' => e = .returned (.slice (some ⟨w.heap.size, 0, none⟩) 3 3) ∧ w' = w.alloc (.cells #[.int .u8 (m * 32 + 25), .int .u8 (a / 256), .int .u8 (a % 256)] 5) := by
  have hmk : ∀ w : World, (Instr.makeSlice 23 (.int .i64 3) (.int .i64 3)).run Try.prog w = .ok (.slice (some ⟨w.heap.size, 0, none⟩) 3 3) (w.alloc (.cells #[.int .u8 0, .int .u8 0, .int .u8 0] 5)) := fun _ => by kernel_rfl
  have hor : bits .or .u8 (m * 32) 25 = m * 32 + 25 := or_head m 25 m0 m1 (by omega) (by omega)
  go_enter Try.func9, Try.ntmps9
  go_wp2
  refine wp_loop_rounds 3 ?_
  rw [rounds_succ]
  go_wp2
  rw [rounds_succ]
  go_wp2
  rw [rounds_succ]
  go_wp2
  go_ret
  exact ⟨rfl, rfl⟩

theorem enc3 (m a : Int) (w : World) (m0 : 0 ≤ m) (m1 : m ≤ 7) (a0 : 0 ≤ a) (a1 : a < 4294967296) :
    Calls Try.prog 9 #[.int .u8 m, .int .u64 a, .int .u8 3] w fun e w' => e = .returned (.slice (some ⟨w.heap.size, 0, none⟩) 5 5) ∧ w' = w.alloc (.cells #[.int .u8 (m * 32 + 26), .int .u8 (a / 16777216), .int .u8 (a / 65536 % 256), .int .u8 (a / 256 % 256), .int .u8 (a % 256)] 5) := by
  have hmk : ∀ w : World, (Instr.makeSlice 23 (.int .i64 5) (.int .i64 5)).run Try.prog w = .ok (.slice (some ⟨w.heap.size, 0, none⟩) 5 5) (w.alloc (.cells #[.int .u8 0, .int .u8 0, .int .u8 0, .int .u8 0, .int .u8 0] 5)) := fun _ => by kernel_rfl
  have hor : bits .or .u8 (m * 32) 26 = m * 32 + 26 := or_head m 26 m0 m1 (by omega) (by omega)
  go_enter Try.func9, Try.ntmps9
  go_wp2
  refine wp_loop_rounds 5 ?_
  rw [rounds_succ]
  go_wp2
  rw [rounds_succ]
  go_wp2
  rw [rounds_succ]
  go_wp2
  rw [rounds_succ]
  go_wp2
  rw [rounds_succ]
  go_wp2
  go_ret
  exact ⟨rfl, rfl⟩

theorem enc4 (m a : Int) (w : World) (m0 : 0 ≤ m) (m1 : m ≤ 7) (a0 : 0 ≤ a) (a1 : a < 18446744073709551616) :
    Calls Try.prog 9 #[.int .u8 m, .int .u64 a, .int .u8 4] w fun e w' => e = .returned (.slice (some ⟨w.heap.size, 0, none⟩) 9 9) ∧ w' = w.alloc (.cells #[.int .u8 (m * 32 + 27), .int .u8 (a / 72057594037927936), .int .u8 (a / 281474976710656 % 256), .int .u8 (a / 1099511627776 % 256), .int .u8 (a / 4294967296 % 256), .int .u8 (a / 16777216 % 256), .int .u8 (a / 65536 % 256), .int .u8 (a / 256 % 256), .int .u8 (a % 256)] 5) := by
  have hmk : ∀ w : World, (Instr.makeSlice 23 (.int .i64 9) (.int .i64 9)).run Try.prog w = .ok (.slice (some ⟨w.heap.size, 0, none⟩) 9 9) (w.alloc (.cells #[.int .u8 0, .int .u8 0, .int .u8 0, .int .u8 0, .int .u8 0, .int .u8 0, .int .u8 0, .int .u8 0, .int .u8 0] 5)) := fun _ => by kernel_rfl
  have hor : bits .or .u8 (m * 32) 27 = m * 32 + 27 := or_head m 27 m0 m1 (by omega) (by omega)
  go_enter Try.func9, Try.ntmps9
  go_wp2
  refine wp_loop_rounds 9 ?_
  rw [rounds_succ]
  go_wp2
  rw [rounds_succ]
  go_wp2
  rw [rounds_succ]
  go_wp2
  rw [rounds_succ]
  go_wp2
  rw [rounds_succ]
  go_wp2
  rw [rounds_succ]
  go_wp2
  rw [rounds_succ]
  go_wp2
  rw [rounds_succ]
  go_wp2
  rw [rounds_succ]
  go_wp2
  go_ret
  exact ⟨rfl, rfl⟩
end Go.Proofs.Qxb6602835a.head

import Derived.Test.Qxb6603245aFill
import Derived.Laws.StructEq
namespace Go.Proofs.Qxb6603245a.imsi
open Go.ChangeShapes Go.WideShapes Go.ChangeAt Go.RowKit

theorem size5 (w : World) : (sizeOf 5).run Try.prog w = .ok 1 w := by
  obtain ⟨i0, hi, _, h1, _⟩ := info_parts info5
  simp [sizeOf, typeInfo, hi, h1]

/-- An array of octets is equal to itself. -/
theorem eq_self (d : Nat) (t : TypeId) (n : Nat) (ht : Try.prog.underlying t = some (.array n 5)) (zs : List Int) (hz : zs.length = n) (w : World) :
    (Op.equalIn (d + 2) t (.agg (bytesA zs)) (.agg (bytesA zs))).run Try.prog w = .ok true w := by
  rw [Op.equalIn]
  simp only [Sem.run_bind, run_underlying ht, Result.andThen_ok, size5, Std.Legacy.Range.forIn_eq_forIn_range', Std.Legacy.Range.size, Nat.sub_zero, Nat.add_sub_cancel, Nat.div_one]
  have hl : ∀ i ∈ List.range' 0 n 1, i < n := fun i hi => by simpa using (List.mem_range'_1.1 hi).2
  generalize List.range' 0 n 1 = l at hl ⊢
  induction l with
  | nil => simp
  | cons i l ih =>
    have hi : i < n := hl i (by simp)
    have px : (part 5 (bytesA zs) (i * 1)).run Try.prog w = .ok (.int .u8 (zs.getD i 0)) w := by
      simp only [part, isAgg, Sem.run_bind, run_underlying Try.underlying5, Result.andThen_ok, Sem.run_pure, Nat.mul_one, bytesA_at zs i (by omega)]
      rfl
    have pe : (Op.equalIn (d + 1) 5 (.int .u8 (zs.getD i 0)) (.int .u8 (zs.getD i 0))).run Try.prog w = .ok true w := by
      rw [run_equalIn_int w d 5 .u8 .u8 _ _ Try.underlying5]
      simp
    simp only [List.forIn_cons, Sem.run_bind, px, pe, Result.andThen_ok]
    simp only [Bool.not_true, Bool.false_eq_true, if_false, Sem.run_pure, Result.andThen_ok]
    exact ih fun j hj => hl j (by simp [hj])

theorem eqGuard22 : Try.prog.eqGuardType Try.prog.depth 22 = false := by kernel_rfl

/-- packNibbles at an array that a load by the long law has made. -/
theorem pack_cs (cs : List Value) (ns : List Int) (hcs : cs = ns.map (Value.int .u8)) (w : World) (h : Sixteen ns) :
    Calls Try.prog 13 #[.agg cs.toArray] w fun e w' => e = .returned (.agg (bytesA (packL ns))) ∧ Below w.heap.size w w' := by
  subst hcs; exact pack_any ns w h

theorem range_below {W w' : World} {b o : Nat} {cs : List Value} (hb : Below W.heap.size W w') (h : W.rangeAt b o cs) : w'.rangeAt b o cs := by
  intro j v hv
  have hc := h j v hv
  exact (hb.cell (World.block_lt_of_cell? W _ hc)).trans hc
theorem below_step {w W w' : World} (hb : Below W.heap.size W w') (h : Below w.heap.size w W) : Below w.heap.size w w' := h.trans (hb.mono h.size)
theorem Holds16.range {wr : World} {g : Nat} {ns : List Int} (h : Holds16 wr g ns) : wr.rangeAt g 0 (ns.map (Value.int .u8)) := by
  intro j v hv
  rw [Nat.zero_add, cell_of_row _ _ _ _ _ _ h.2]
  simpa [bytesA] using hv

theorem nib_stop {zs : List Int} (h : Eight zs) {n : Nat} (hst : Stop zs n) (j : Nat) (hj : j < n) : 0 ≤ nib zs j ∧ nib zs j ≤ 14 := by
  have h1 := nib_bd h j
  have h2 := hst.2.1 j hj
  omega
theorem sixteen_nib {zs : List Int} (h : Eight zs) (n : Nat) : Sixteen (canon (nib zs) n) := sixteen_canon fun j _ => nib_bd h j
end Go.Proofs.Qxb6603245a.imsi

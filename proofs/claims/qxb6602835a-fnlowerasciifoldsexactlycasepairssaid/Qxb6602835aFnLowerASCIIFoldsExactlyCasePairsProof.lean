/-
  The proof of 'Rows.FnLowerASCIIFoldsExactlyCasePairsSaid', over the program's shell (proof-skeleton.mjs); the walk is filled in.
-/
import Derived.Test.Qxb6602835aRows
import Derived.WalkKit
import Derived.ProofKit
import Derived.OpenShut
import Derived.ShutString
import Derived.Test.Qxb6602835aLower
namespace Go.Proofs.Qxb6602835a.fnLowerASCIIFoldsExactlyCasePairs
open Go.ChangeShapes Go.WideShapes Go.ChangeAt Go.RowKit
open Go.ChangeMaps (open_string shut_string)
set_option linter.unusedVariables false      -- a walk need not use every 'w<i>' (that an integer argument fits its kind)

theorem own : ownKnob Try.prog.godebug = none := by kernel_rfl

open Go.Proofs.Qxb6602835a.lower
theorem ret_bool {a b : Bool} (h : a = b) : Ending.returned (.bool a) = .returned (.bool b) := by rw [h]
theorem xor_u8 (a b : Nat) (ha : a < 256) (hb : b < 256) : bits .xor .u8 (a : Int) (b : Int) = ((a ^^^ b : Nat) : Int) := by
  have hx : a ^^^ b < 2 ^ 8 := Nat.xor_lt_two_pow (by omega) (by omega)
  have h1 : (BitVec.ofInt 8 (a : Int)).toNat = a := by
    rw [BitVec.ofInt_natCast, BitVec.toNat_ofNat]; exact Nat.mod_eq_of_lt (by omega)
  have h2 : (BitVec.ofInt 8 (b : Int)).toNat = b := by
    rw [BitVec.ofInt_natCast, BitVec.toNat_ofNat]; exact Nat.mod_eq_of_lt (by omega)
  show IntKind.u8.wrap ((BitVec.ofInt 8 (a : Int) ^^^ BitVec.ofInt 8 (b : Int)).toNat : Int) = _
  rw [BitVec.toNat_xor, h1, h2, IntKind.wrap_u8]
  omega
theorem or_u8 (a b : Nat) (ha : a < 256) (hb : b < 256) : bits .or .u8 (a : Int) (b : Int) = ((a ||| b : Nat) : Int) :=
  (bits_nat .u8 8 (by decide) wraps_u8 a b ha hb).2
/-- Bit 0x20 of a byte, by its kind: a capital, a small letter, neither. -/
theorem bit32 (a : Nat) (h : a < 256) : ((65 ≤ a ∧ a ≤ 90) → a ^^^ 32 = a + 32 ∧ a ||| 32 = a + 32) ∧ ((97 ≤ a ∧ a ≤ 122) → (a ^^^ 32) + 32 = a ∧ a ||| 32 = a) ∧
    ((a < 65 ∨ 90 < a) ∧ (a < 97 ∨ 122 < a) → a ||| 32 < 97 ∨ 122 < a ||| 32) := by
  have all : ∀ i : Fin 256, ((65 ≤ i.val ∧ i.val ≤ 90) → i.val ^^^ 32 = i.val + 32 ∧ i.val ||| 32 = i.val + 32) ∧ ((97 ≤ i.val ∧ i.val ≤ 122) → (i.val ^^^ 32) + 32 = i.val ∧ i.val ||| 32 = i.val) ∧
      ((i.val < 65 ∨ 90 < i.val) ∧ (i.val < 97 ∨ 122 < i.val) → i.val ||| 32 < 97 ∨ 122 < i.val ||| 32) := by decide +kernel
  exact all ⟨a, h⟩
theorem xor_back (a b c : Nat) (h : a ^^^ b = c) : b = a ^^^ c := by
  rw [← h, ← Nat.xor_assoc, Nat.xor_self, Nat.zero_xor]
theorem low_eq (x y : Int) : low x = low y ↔ (x = y ∨ (65 ≤ x ∧ x ≤ 90 ∧ y = x + 32) ∨ (65 ≤ y ∧ y ≤ 90 ∧ x = y + 32)) := by
  unfold low
  by_cases h1 : 65 ≤ x ∧ x ≤ 90
  · by_cases h2 : 65 ≤ y ∧ y ≤ 90
    · rw [if_pos h1, if_pos h2]; omega
    · rw [if_pos h1, if_neg h2]; omega
  · by_cases h2 : 65 ≤ y ∧ y ≤ 90
    · rw [if_neg h1, if_pos h2]; omega
    · rw [if_neg h1, if_neg h2]; omega
/-- THE PLAIN LAW, in the walk's three ways. -/
theorem fold_pair (x y : Int) (x0 : 0 ≤ x) (x1 : x ≤ 255) (y0 : 0 ≤ y) (y1 : y ≤ 255) (hne : ¬ x = y) (hx : bits .xor .u8 x y = 32) (ho : 97 ≤ bits .or .u8 x 32) : (low x == low y) = decide (bits .or .u8 x 32 ≤ 122) := by
  obtain ⟨a, rfl⟩ := Int.eq_ofNat_of_zero_le x0
  obtain ⟨b, rfl⟩ := Int.eq_ofNat_of_zero_le y0
  have ha : a < 256 := by omega
  have hb : b < 256 := by omega
  have eo : bits .or .u8 (a : Int) 32 = ((a ||| 32 : Nat) : Int) := or_u8 a 32 ha (by omega)
  rw [xor_u8 a b ha hb] at hx
  generalize bits .or .u8 (a : Int) 32 = o at *
  have e : b = a ^^^ 32 := xor_back a b 32 (by omega)
  obtain ⟨c1, c2, c3⟩ := bit32 a ha
  rw [Bool.eq_iff_iff]
  simp only [beq_iff_eq, decide_eq_true_eq]
  rw [low_eq]
  by_cases k1 : 65 ≤ a ∧ a ≤ 90
  · have := c1 k1; omega
  · by_cases k2 : 97 ≤ a ∧ a ≤ 122
    · have := c2 k2; omega
    · have := c3 (by omega); omega
theorem not_low {x y : Int} (h : ¬ low x = low y) : (low x == low y) = false := by simpa using h
theorem fold_low (x y : Int) (x0 : 0 ≤ x) (x1 : x ≤ 255) (y0 : 0 ≤ y) (y1 : y ≤ 255) (hne : ¬ x = y) (ho : bits .or .u8 x 32 < 97) : (low x == low y) = false := by
  obtain ⟨a, rfl⟩ := Int.eq_ofNat_of_zero_le x0
  have ha : a < 256 := by omega
  have eo : bits .or .u8 (a : Int) 32 = ((a ||| 32 : Nat) : Int) := or_u8 a 32 ha (by omega)
  rw [eo] at ho
  obtain ⟨c1, c2, c3⟩ := bit32 a ha
  refine not_low ?_
  rw [low_eq]
  by_cases k1 : 65 ≤ a ∧ a ≤ 90
  · have := c1 k1; omega
  · by_cases k2 : 97 ≤ a ∧ a ≤ 122
    · have := c2 k2; omega
    · omega
theorem fold_far (x y : Int) (x0 : 0 ≤ x) (x1 : x ≤ 255) (y0 : 0 ≤ y) (y1 : y ≤ 255) (hne : ¬ x = y) (hx : ¬ bits .xor .u8 x y = 32) : (low x == low y) = false := by
  obtain ⟨a, rfl⟩ := Int.eq_ofNat_of_zero_le x0
  obtain ⟨b, rfl⟩ := Int.eq_ofNat_of_zero_le y0
  have ha : a < 256 := by omega
  have hb : b < 256 := by omega
  rw [xor_u8 a b ha hb] at hx
  refine not_low ?_
  rw [low_eq]
  rintro (h | h | h)
  · exact hne h
  · have h1 := ((bit32 a ha).1 (by omega)).1
    have e : b = a ^^^ 32 := by omega
    rw [e, ← Nat.xor_assoc, Nat.xor_self, Nat.zero_xor] at hx
    exact hx rfl
  · have h1 := ((bit32 b hb).1 (by omega)).1
    have e : a = b ^^^ 32 := by omega
    rw [e, Nat.xor_comm, ← Nat.xor_assoc, Nat.xor_self, Nat.zero_xor] at hx
    exact hx rfl

/-! ### STEP 1: THE WALK: the Go text returns true. 'Grown w w'': the world has at most new blocks (Derived/RowKit3.lean). Part the cases AHEAD of 'go_enter' where a test parts the walk; take each callee by a contract of your own. -/
theorem walk (a0 : Int) (a1 : Int) (w0 : (Lit.int .u8 a0).wf = true) (w1 : (Lit.int .u8 a1).wf = true) (w : World) :
    Calls Try.prog 6 #[.int .u8 a0, .int .u8 a1] w fun e w' => e = .returned (.bool true) ∧ Grown w w' := by
  obtain ⟨b0, b1⟩ := byte_of w0
  obtain ⟨b2, b3⟩ := byte_of w1
  go_enter Try.func6, Try.ntmps6
  go_wp2_with fail
  refine (lower_any _ b0 b1 _).mono ?_
  rintro e w' ⟨rfl, rfl⟩
  go_wp2_with fail
  refine (lower_any _ b2 b3 _).mono ?_
  rintro e w' ⟨rfl, rfl⟩
  go_wp2
  · go_ret
    exact ⟨rfl, Grown.refl _⟩
  · have hne : ¬ a0 = a1 := by assumption
    have hx : bits BinOp.xor IntKind.u8 a0 a1 = 32 := by assumption
    have ho : 97 ≤ bits BinOp.or IntKind.u8 a0 32 := by assumption
    have hf := fold_pair a0 a1 b0 b1 b2 b3 hne hx ho
    go_ret
    exact ⟨ret_bool (by rw [show (a0 == a1) = false from by simpa using hne, hf]; simp), Grown.refl _⟩
  · have hne : ¬ a0 = a1 := by assumption
    have ho : bits BinOp.or IntKind.u8 a0 32 < 97 := by assumption
    have hf := fold_low a0 a1 b0 b1 b2 b3 hne ho
    go_ret
    exact ⟨ret_bool (by rw [show (a0 == a1) = false from by simpa using hne, hf]; simp), Grown.refl _⟩
  · have hne : ¬ a0 = a1 := by assumption
    have hx : ¬ bits BinOp.xor IntKind.u8 a0 a1 = 32 := by assumption
    have hf := fold_far a0 a1 b0 b1 b2 b3 hne hx
    go_ret
    exact ⟨ret_bool (by rw [show (a0 == a1) = false from by simpa using hne, hf]; simp), Grown.refl _⟩

/-! ### THE ROW's STEP: WRITTEN OUT: LEAVE IT -/
set_option maxRecDepth 100000 in
theorem lifted (os : Os) (started : os.Started) (H : Type) (enc : TypeId × Value → H) :
    ReturnsInHanded {} Try.checked os 6 .any (Rows.fnLowerASCIIFoldsExactlyCasePairsSpec.pre6 enc Try.prog Try.f6 Rows.fnLowerASCIIFoldsExactlyCasePairsRow.domain false) (Rows.fnLowerASCIIFoldsExactlyCasePairsSpec.post enc Try.prog Try.f6 false true false false) := by
  refine returnsInHanded_of_change (C := Try.checked) own started (by kernel_rfl) Try.func6
    (ChangeSpec.witness6 (enc := enc) (C := Try.checked) false ⟨#[], #[.int .u8 0, .int .u8 0], []⟩ 8 (by kernel_rfl) (by kernel_rfl) (by kernel_rfl) (by kernel_rfl)) ?_
  intro W base args ds gs before hval0 hW hcnd _
  have hval : ∀ (j : Nat) t v, Try.f6.params[j]? = some t → args[j]? = some v → Value.okWide Try.prog W .any base t v := hval0
  have hW' := hW
  obtain ⟨p, q, hA0, hV, rfl, hfz, hnd⟩ := hW
  have hA : DataW.TrodAll enc Try.prog W 0 (fun _ => true) true Try.f6.params.toList args.toList ds p := hA0
  rw [Try.params6] at hA hval
  obtain ⟨v0, vs0, d0, ds0, p0, q0, hargs, rfl, rfl, h0, r0⟩ := trodAll_cons hA
  obtain ⟨v1, vs1, d1, ds1, p1, q1, rfl, rfl, rfl, h1, r1⟩ := trodAll_cons r0
  obtain ⟨rfl, rfl, rfl⟩ := trodAll_nil r1
  obtain rfl : args = #[v0, v1] := by cases args; simp_all
  obtain ⟨rfl, rfl⟩ := trodVars_none hV
  obtain ⟨a0, rfl, rfl, rfl, w0⟩ := open_int Try.underlying5 (hval 0 5 v0 rfl rfl) h0
  obtain ⟨a1, rfl, rfl, rfl, w1⟩ := open_int Try.underlying5 (hval 1 5 v1 rfl rfl) h1
  clear hA0 hval0
  simp only [List.append_nil] at hW'
  refine (walk a0 a1 w0 w1 W).mono fun e W' ⟨he, hg⟩ => ?_
  subst he
  exact ⟨_, rfl, post_of_same (pa := []) (pv := []) hW' (fun _ _ _ => (trodAll_cons_mk (shut_bool Try.underlying4 _) trodAll_mk0)) (fun sp _ => (trodAll_cons_mk (shut_int Try.underlying5 w0) (trodAll_cons_mk (shut_int Try.underlying5 w1) trodAll_mk0))) (fun _ _ => rfl) rfl
    (hg.frame _) hg.2.1 (ok_one (by kernel_rfl) rfl (okWide_bool_mk Try.underlying4 _))⟩

theorem over : Rows.fnLowerASCIIFoldsExactlyCasePairsRow.holds Try.pinned (OpenSpec.ofChange Rows.fnLowerASCIIFoldsExactlyCasePairsSpec) :=
  OpenClaim.holds_of_wide 6 Try.f6 rfl rfl rfl rfl rfl rfl rfl ⟨rfl, rfl, rfl, rfl, rfl⟩ rfl rfl rfl rfl rfl (by kernel_rfl) Try.func6 (by kernel_rfl)
    (of_decide_eq_true (by kernel_rfl)) (by unfold Func.isWrapper; first | (rw [if_pos (by decide +kernel)]; kernel_rfl) | (rw [if_neg (by decide +kernel)]; exact ⟨rfl, rfl⟩))
    (fun os started H enc _ => lifted os started H enc)

/-- ████ THE STATEMENT ████ -/
theorem proved : Rows.FnLowerASCIIFoldsExactlyCasePairsSaid :=
  over
end Go.Proofs.Qxb6602835a.fnLowerASCIIFoldsExactlyCasePairs

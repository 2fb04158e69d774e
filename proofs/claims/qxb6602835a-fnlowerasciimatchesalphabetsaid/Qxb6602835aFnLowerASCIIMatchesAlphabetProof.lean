/-
  The proof of 'Rows.FnLowerASCIIMatchesAlphabetSaid', over the program's shell (proof-skeleton.mjs); the walk is filled in.
-/
import Derived.Test.Qxb6602835aRows
import Derived.WalkKit
import Derived.ProofKit
import Derived.OpenShut
import Derived.ShutString
import Derived.Test.Qxb6602835aLower
namespace Go.Proofs.Qxb6602835a.fnLowerASCIIMatchesAlphabet
open Go.ChangeShapes Go.WideShapes Go.ChangeAt Go.RowKit
open Go.ChangeMaps (open_string shut_string)
set_option linter.unusedVariables false      -- a walk need not use every 'w<i>' (that an integer argument fits its kind)

theorem own : ownKnob Try.prog.godebug = none := by kernel_rfl

open Go.Proofs.Qxb6602835a.lower
/-- What 'want' holds after k rounds: the small letter, where b is one of the first k capitals. -/
def upTo (b : Int) (k : Nat) : Int := if 65 ≤ b ∧ b < 65 + k then b + 32 else b
theorem upTo_zero (b : Int) : upTo b 0 = b := by unfold upTo; rw [if_neg (by omega)]
theorem upTo_all (b : Int) : upTo b 26 = low b := by
  unfold upTo low
  by_cases h : 65 ≤ b ∧ b ≤ 90
  · rw [if_pos (by omega), if_pos h]
  · rw [if_neg (by omega), if_neg h]
theorem upTo_hit (b : Int) (k : Nat) (h : b = 65 + k) : upTo b (k + 1) = 97 + k := by unfold upTo; rw [if_pos (by omega)]; omega
theorem upTo_miss (b : Int) (k : Nat) (h : b ≠ 65 + k) : upTo b (k + 1) = upTo b k := by
  unfold upTo
  by_cases c : 65 ≤ b ∧ b < 65 + k
  · rw [if_pos (by omega), if_pos c]
  · rw [if_neg (by omega), if_neg c]
/-- The two alphabets, letter by letter. -/
theorem up_at (k : Nat) (h : k < 26) : ((ByteArray.mk #[65, 66, 67, 68, 69, 70, 71, 72, 73, 74, 75, 76, 77, 78, 79, 80, 81, 82, 83, 84, 85, 86, 87, 88, 89, 90])[k]'h).toNat = 65 + k := by
  have all : ∀ i : Fin 26, ((ByteArray.mk #[65, 66, 67, 68, 69, 70, 71, 72, 73, 74, 75, 76, 77, 78, 79, 80, 81, 82, 83, 84, 85, 86, 87, 88, 89, 90])[i.val]'i.isLt).toNat = 65 + i.val := by decide +kernel
  exact all ⟨k, h⟩
theorem lo_at (k : Nat) (h : k < 26) : ((ByteArray.mk #[97, 98, 99, 100, 101, 102, 103, 104, 105, 106, 107, 108, 109, 110, 111, 112, 113, 114, 115, 116, 117, 118, 119, 120, 121, 122])[k]'h).toNat = 97 + k := by
  have all : ∀ i : Fin 26, ((ByteArray.mk #[97, 98, 99, 100, 101, 102, 103, 104, 105, 106, 107, 108, 109, 110, 111, 112, 113, 114, 115, 116, 117, 118, 119, 120, 121, 122])[i.val]'i.isLt).toNat = 97 + i.val := by decide +kernel
  exact all ⟨k, h⟩
theorem val_u8 {a b : Int} (h : a = b) : Value.int .u8 a = .int .u8 b := by rw [h]
theorem ret_bool {a b : Bool} (h : a = b) : Ending.returned (.bool a) = .returned (.bool b) := by rw [h]

/-! ### STEP 1: THE WALK: the Go text returns true. 'Grown w w'': the world has at most new blocks (Derived/RowKit3.lean). Part the cases AHEAD of 'go_enter' where a test parts the walk; take each callee by a contract of your own. -/
theorem walk (a0 : Int) (w0 : (Lit.int .u8 a0).wf = true) (w : World) :
    Calls Try.prog 4 #[.int .u8 a0] w fun e w' => e = .returned (.bool true) ∧ Grown w w' := by
  obtain ⟨b0, b1⟩ := byte_of w0
  go_enter Try.func4, Try.ntmps4
  go_wp2
  go_loop [3, 4] (fun t i => ∃ k : Nat, k ≤ 26 ∧ i = .int .i64 k ∧ t = .int .u8 (upTo a0 k)) (fun _ i => 26 - (intOf i).toNat)
  case atStart => exact ⟨0, Nat.zero_le _, rfl, by rw [upTo_zero]⟩
  case round =>
    obtain ⟨k, hk, rfl, rfl⟩ := hrel
    by_cases hlt : k < 26
    · go_wp2
      · have ht : (((ByteArray.mk #[65, 66, 67, 68, 69, 70, 71, 72, 73, 74, 75, 76, 77, 78, 79, 80, 81, 82, 83, 84, 85, 86, 87, 88, 89, 90])[k]'hlt).toNat : Int) = a0 := by
          have h : ((((ByteArray.mk #[65, 66, 67, 68, 69, 70, 71, 72, 73, 74, 75, 76, 77, 78, 79, 80, 81, 82, 83, 84, 85, 86, 87, 88, 89, 90])[k]'hlt).toNat : Int) == a0) = true := by assumption
          simpa using h
        go_round
        case rel => exact ⟨k + 1, by omega, by go_num, val_u8 (by rw [upTo_hit a0 k (by rw [← ht, up_at k hlt]; rfl), lo_at k hlt]; rfl)⟩
        case measure => simp [intOf]; omega
      · have ht : ¬ (((ByteArray.mk #[65, 66, 67, 68, 69, 70, 71, 72, 73, 74, 75, 76, 77, 78, 79, 80, 81, 82, 83, 84, 85, 86, 87, 88, 89, 90])[k]'hlt).toNat : Int) = a0 := by
          have h : ((((ByteArray.mk #[65, 66, 67, 68, 69, 70, 71, 72, 73, 74, 75, 76, 77, 78, 79, 80, 81, 82, 83, 84, 85, 86, 87, 88, 89, 90])[k]'hlt).toNat : Int) == a0) = false := by assumption
          simpa using h
        go_round
        case rel => exact ⟨k + 1, by omega, by go_num, by rw [upTo_miss a0 k (fun h => ht (by rw [h, up_at k hlt]; rfl))]⟩
        case measure => simp [intOf]; omega
    · have he : k = 26 := by omega
      subst he
      go_wp2_with (go_at_call 11; refine (lower_any _ b0 b1 _).mono ?_; rintro e w' ⟨rfl, rfl⟩)
      go_ret
      exact ⟨ret_bool (by rw [upTo_all]; simp), Grown.refl _⟩

/-! ### THE ROW's STEP: WRITTEN OUT: LEAVE IT -/
set_option maxRecDepth 100000 in
theorem lifted (os : Os) (started : os.Started) (H : Type) (enc : TypeId × Value → H) :
    ReturnsInHanded {} Try.checked os 4 .any (Rows.fnLowerASCIIMatchesAlphabetSpec.pre6 enc Try.prog Try.f4 Rows.fnLowerASCIIMatchesAlphabetRow.domain false) (Rows.fnLowerASCIIMatchesAlphabetSpec.post enc Try.prog Try.f4 false true false false) := by
  refine returnsInHanded_of_change (C := Try.checked) own started (by kernel_rfl) Try.func4
    (ChangeSpec.witness6 (enc := enc) (C := Try.checked) false ⟨#[], #[.int .u8 0], []⟩ 8 (by kernel_rfl) (by kernel_rfl) (by kernel_rfl) (by kernel_rfl)) ?_
  intro W base args ds gs before hval0 hW hcnd _
  have hval : ∀ (j : Nat) t v, Try.f4.params[j]? = some t → args[j]? = some v → Value.okWide Try.prog W .any base t v := hval0
  have hW' := hW
  obtain ⟨p, q, hA0, hV, rfl, hfz, hnd⟩ := hW
  have hA : DataW.TrodAll enc Try.prog W 0 (fun _ => true) true Try.f4.params.toList args.toList ds p := hA0
  rw [Try.params4] at hA hval
  obtain ⟨v0, vs0, d0, ds0, p0, q0, hargs, rfl, rfl, h0, r0⟩ := trodAll_cons hA
  obtain ⟨rfl, rfl, rfl⟩ := trodAll_nil r0
  obtain rfl : args = #[v0] := by cases args; simp_all
  obtain ⟨rfl, rfl⟩ := trodVars_none hV
  obtain ⟨a0, rfl, rfl, rfl, w0⟩ := open_int Try.underlying5 (hval 0 5 v0 rfl rfl) h0
  clear hA0 hval0
  simp only [List.append_nil] at hW'
  refine (walk a0 w0 W).mono fun e W' ⟨he, hg⟩ => ?_
  subst he
  exact ⟨_, rfl, post_of_same (pa := []) (pv := []) hW' (fun _ _ _ => (trodAll_cons_mk (shut_bool Try.underlying4 _) trodAll_mk0)) (fun sp _ => (trodAll_cons_mk (shut_int Try.underlying5 w0) trodAll_mk0)) (fun _ _ => rfl) rfl
    (hg.frame _) hg.2.1 (ok_one (by kernel_rfl) rfl (okWide_bool_mk Try.underlying4 _))⟩

theorem over : Rows.fnLowerASCIIMatchesAlphabetRow.holds Try.pinned (OpenSpec.ofChange Rows.fnLowerASCIIMatchesAlphabetSpec) :=
  OpenClaim.holds_of_wide 4 Try.f4 rfl rfl rfl rfl rfl rfl rfl ⟨rfl, rfl, rfl, rfl, rfl⟩ rfl rfl rfl rfl rfl (by kernel_rfl) Try.func4 (by kernel_rfl)
    (of_decide_eq_true (by kernel_rfl)) (by unfold Func.isWrapper; first | (rw [if_pos (by decide +kernel)]; kernel_rfl) | (rw [if_neg (by decide +kernel)]; exact ⟨rfl, rfl⟩))
    (fun os started H enc _ => lifted os started H enc)

/-- ████ THE STATEMENT ████ -/
theorem proved : Rows.FnLowerASCIIMatchesAlphabetSaid :=
  over
end Go.Proofs.Qxb6602835a.fnLowerASCIIMatchesAlphabet

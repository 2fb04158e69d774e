/-
  The proof of 'Rows.FnHeadDecodesEveryEncodingSaid', over the program's shell (proof-skeleton.mjs); the walk is filled in.
-/
import Derived.Test.Qxb6602835aRows
import Derived.WalkKit
import Derived.ProofKit
import Derived.OpenShut
import Derived.ShutString
import Derived.ChangeOld
import Derived.Below
import Derived.Test.Qxb6602835aHeadLaw
namespace Go.Proofs.Qxb6602835a.fnHeadDecodesEveryEncoding
open Go.ChangeShapes Go.WideShapes Go.ChangeAt Go.RowKit
open Go.ChangeMaps (open_string shut_string)
set_option linter.unusedVariables false

theorem own : ownKnob Try.prog.godebug = none := by kernel_rfl
theorem laidOut : laidOutB Try.prog = true := by kernel_rfl

/-- WHAT THE WALK IS TOLD OF A SLICE OF INTEGERS THAT CAME IN: it is nil; or it leads to a row of 'cap' cells, the numbers 'zs' (the first 'len' are its elements, the rest its spare room), each fitting its kind. -/
def IsRow (k : IntKind) (w : World) (a : Option Addr) (len cap : Nat) (zs : List Int) : Prop :=
  (a = none ∧ len = 0 ∧ cap = 0 ∧ zs = []) ∨
  ∃ x, a = some x ∧ len ≤ cap ∧ cap ≤ maxLen ∧ zs.length = cap ∧ (∀ i, i < zs.length → w.cell? (x.add i) = some (.int k (zs.getD i 0))) ∧ ∀ n ∈ zs, (Lit.int k n).wf = true

open Go.Proofs.Qxb6602835a.head
/-! ### The inputs outside the law's domain: it returns true at once. -/
theorem early_len (m a d : Int) (ao : Option Addr) (len cap : Nat) (w : World) (h : 1048576 < len) :
    Calls Try.prog 3 #[.int .u8 m, .int .u64 a, .int .u8 d, .slice ao len cap] w fun e w' => e = .returned (.bool true) ∧ Below w.heap.size w w' := by
  go_enter Try.func3, Try.ntmps3
  go_wp2_with fail
  refine (zzb_no _ _ _ _ _ _ h _).mono ?_
  rintro e w' ⟨rfl, rfl⟩
  go_wp2
  go_ret
  exact ⟨rfl, Below.refl _ _⟩
theorem early_major (m a d : Int) (ao : Option Addr) (len cap : Nat) (w : World) (h : 7 < m) (hb : len ≤ 1048576) :
    Calls Try.prog 3 #[.int .u8 m, .int .u64 a, .int .u8 d, .slice ao len cap] w fun e w' => e = .returned (.bool true) ∧ Below w.heap.size w w' := by
  go_enter Try.func3, Try.ntmps3
  go_wp2_with fail
  refine (zzb_yes _ _ _ _ _ _ hb _).mono ?_
  rintro e w' ⟨rfl, rfl⟩
  go_wp2
  go_ret
  exact ⟨rfl, Below.refl _ _⟩
theorem early_width (m a d : Int) (ao : Option Addr) (len cap : Nat) (w : World) (hm : m ≤ 7) (h : 4 < d) (hb : len ≤ 1048576) :
    Calls Try.prog 3 #[.int .u8 m, .int .u64 a, .int .u8 d, .slice ao len cap] w fun e w' => e = .returned (.bool true) ∧ Below w.heap.size w w' := by
  go_enter Try.func3, Try.ntmps3
  go_wp2_with fail
  refine (zzb_yes _ _ _ _ _ _ hb _).mono ?_
  rintro e w' ⟨rfl, rfl⟩
  go_wp2
  go_ret
  exact ⟨rfl, Below.refl _ _⟩
theorem early0 (m a : Int) (ao : Option Addr) (len cap : Nat) (w : World) (hm : m ≤ 7) (h : 23 < a) (hb : len ≤ 1048576) :
    Calls Try.prog 3 #[.int .u8 m, .int .u64 a, .int .u8 0, .slice ao len cap] w fun e w' => e = .returned (.bool true) ∧ Below w.heap.size w w' := by
  go_enter Try.func3, Try.ntmps3
  go_wp2_with fail
  refine (zzb_yes _ _ _ _ _ _ hb _).mono ?_
  rintro e w' ⟨rfl, rfl⟩
  go_wp2
  go_ret
  exact ⟨rfl, Below.refl _ _⟩
theorem early1 (m a : Int) (ao : Option Addr) (len cap : Nat) (w : World) (hm : m ≤ 7) (h0 : 256 ≤ a) (h1 : a ≤ 18446744073709551615) (hb : len ≤ 1048576) :
    Calls Try.prog 3 #[.int .u8 m, .int .u64 a, .int .u8 1, .slice ao len cap] w fun e w' => e = .returned (.bool true) ∧ Below w.heap.size w w' := by
  have hd : 1 ≤ a / 256 := by omega
  go_enter Try.func3, Try.ntmps3
  go_wp2_with fail
  refine (zzb_yes _ _ _ _ _ _ hb _).mono ?_
  rintro e w' ⟨rfl, rfl⟩
  go_wp2
  go_ret
  exact ⟨rfl, Below.refl _ _⟩
theorem early2 (m a : Int) (ao : Option Addr) (len cap : Nat) (w : World) (hm : m ≤ 7) (h0 : 65536 ≤ a) (h1 : a ≤ 18446744073709551615) (hb : len ≤ 1048576) :
    Calls Try.prog 3 #[.int .u8 m, .int .u64 a, .int .u8 2, .slice ao len cap] w fun e w' => e = .returned (.bool true) ∧ Below w.heap.size w w' := by
  have hd : 1 ≤ a / 65536 := by omega
  go_enter Try.func3, Try.ntmps3
  go_wp2_with fail
  refine (zzb_yes _ _ _ _ _ _ hb _).mono ?_
  rintro e w' ⟨rfl, rfl⟩
  go_wp2
  go_ret
  exact ⟨rfl, Below.refl _ _⟩
theorem early3 (m a : Int) (ao : Option Addr) (len cap : Nat) (w : World) (hm : m ≤ 7) (h0 : 4294967296 ≤ a) (h1 : a ≤ 18446744073709551615) (hb : len ≤ 1048576) :
    Calls Try.prog 3 #[.int .u8 m, .int .u64 a, .int .u8 3, .slice ao len cap] w fun e w' => e = .returned (.bool true) ∧ Below w.heap.size w w' := by
  have hd : 1 ≤ a / 4294967296 := by omega
  go_enter Try.func3, Try.ntmps3
  go_wp2_with fail
  refine (zzb_yes _ _ _ _ _ _ hb _).mono ?_
  rintro e w' ⟨rfl, rfl⟩
  go_wp2
  go_ret
  exact ⟨rfl, Below.refl _ _⟩

/-! ### STEP 1: THE WALK: the Go text returns true, AND WRITES NOTHING THAT WAS THERE: 'Below w.heap.size w w'' (Derived/Below.lean: '.refl', '.alloc', '.drew', '.setCell' at a new block, '.trans'). Open each 'IsRow' by 'rcases' AHEAD of 'go_enter'; part every test ahead of the walk. -/
theorem walk (a0 : Int) (a1 : Int) (a2 : Int) (a3 : Option Addr) (len3 cap3 : Nat) (z3 : List Int) (w : World) (w0 : (Lit.int .u8 a0).wf = true) (w1 : (Lit.int .u64 a1).wf = true) (w2 : (Lit.int .u8 a2).wf = true) (w3 : IsRow .u8 w a3 len3 cap3 z3) :
    Calls Try.prog 3 #[.int .u8 a0, .int .u64 a1, .int .u8 a2, .slice a3 len3 cap3] w fun e w' => e = .returned (.bool true) ∧ Below w.heap.size w w' := by
  have b0 := bounds_u8 w0
  have b1 := bounds_u64 w1
  have b2 := bounds_u8 w2
  by_cases hb : len3 ≤ 1048576
  · by_cases hm : a0 ≤ 7
    · by_cases hd : a2 ≤ 4
      · have h5 : a2 = 0 ∨ a2 = 1 ∨ a2 = 2 ∨ a2 = 3 ∨ a2 = 4 := by omega
        rcases h5 with rfl | rfl | rfl | rfl | rfl
        · by_cases ha : a1 ≤ 23
          · exact law0 a0 a1 a3 len3 cap3 z3 w (by omega) hm (by omega) ha hb w3
          · exact early0 a0 a1 a3 len3 cap3 w hm (by omega) hb
        · by_cases ha : a1 < 256
          · exact law1 a0 a1 a3 len3 cap3 z3 w (by omega) hm (by omega) ha hb w3
          · exact early1 a0 a1 a3 len3 cap3 w hm (by omega) (by omega) hb
        · by_cases ha : a1 < 65536
          · exact law2 a0 a1 a3 len3 cap3 z3 w (by omega) hm (by omega) ha hb w3
          · exact early2 a0 a1 a3 len3 cap3 w hm (by omega) (by omega) hb
        · by_cases ha : a1 < 4294967296
          · exact law3 a0 a1 a3 len3 cap3 z3 w (by omega) hm (by omega) ha hb w3
          · exact early3 a0 a1 a3 len3 cap3 w hm (by omega) (by omega) hb
        · exact law4 a0 a1 a3 len3 cap3 z3 w (by omega) hm (by omega) (by omega) hb w3
      · exact early_width a0 a1 a2 a3 len3 cap3 w hm (by omega) hb
    · exact early_major a0 a1 a2 a3 len3 cap3 w (by omega) hb
  · exact early_len a0 a1 a2 a3 len3 cap3 w (by omega)

/-! ### THE ROW's STEP: WRITTEN OUT: LEAVE IT -/
set_option maxRecDepth 100000 in
theorem lifted (os : Os) (started : os.Started) (H : Type) (enc : TypeId × Value → H) :
    ReturnsInHanded {} Try.checked os 3 .any (Rows.fnHeadDecodesEveryEncodingSpec.pre6 enc Try.prog Try.f3 Rows.fnHeadDecodesEveryEncodingRow.domain false) (Rows.fnHeadDecodesEveryEncodingSpec.post enc Try.prog Try.f3 false true false false) := by
  refine returnsInHanded_of_change (C := Try.checked) own started (by kernel_rfl) Try.func3
    (ChangeSpec.witness6 (enc := enc) (C := Try.checked) false ⟨#[], #[.int .u8 0, .int .u64 0, .int .u8 0, .slice none 0 0], []⟩ 8 (by kernel_rfl) (by kernel_rfl) (by kernel_rfl) (by kernel_rfl)) ?_
  intro W base args ds gs before hval0 hW hcnd _
  have hval : ∀ (j : Nat) t v, Try.f3.params[j]? = some t → args[j]? = some v → Value.okWide Try.prog W .any base t v := hval0
  have hW' := hW
  obtain ⟨p, q, hA0, hV, rfl, hfz, hnd⟩ := hW
  have hA : DataW.TrodAll enc Try.prog W 0 (fun _ => true) true Try.f3.params.toList args.toList ds p := hA0
  rw [Try.params3] at hA hval
  obtain ⟨v0, vs0, d0, ds0, p0, q0, hargs, rfl, rfl, h0, r0⟩ := trodAll_cons hA
  obtain ⟨v1, vs1, d1, ds1, p1, q1, rfl, rfl, rfl, h1, r1⟩ := trodAll_cons r0
  obtain ⟨v2, vs2, d2, ds2, p2, q2, rfl, rfl, rfl, h2, r2⟩ := trodAll_cons r1
  obtain ⟨v3, vs3, d3, ds3, p3, q3, rfl, rfl, rfl, h3, r3⟩ := trodAll_cons r2
  obtain ⟨rfl, rfl, rfl⟩ := trodAll_nil r3
  obtain rfl : args = #[v0, v1, v2, v3] := by cases args; simp_all
  obtain ⟨rfl, rfl⟩ := trodVars_none hV
  obtain ⟨a0, rfl, rfl, rfl, w0⟩ := open_int Try.underlying5 (hval 0 5 v0 rfl rfl) h0
  obtain ⟨a1, rfl, rfl, rfl, w1⟩ := open_int Try.underlying22 (hval 1 22 v1 rfl rfl) h1
  obtain ⟨a2, rfl, rfl, rfl, w2⟩ := open_int Try.underlying5 (hval 2 5 v2 rfl rfl) h2
  obtain ⟨a3, len3, cap3, rfl⟩ := okWide_slice Try.underlying23 (hval 3 23 v3 rfl rfl)
  have k3 := h3
  have lt3 : ∀ x ∈ p3, x.block < W.heap.size := by obtain ⟨m, hm⟩ := k3; exact DataW.trod_lt m _ _ _ hm
  obtain ⟨z3, w3⟩ : ∃ zs, IsRow .u8 W a3 len3 cap3 zs := by
    obtain ⟨fuel, hf⟩ := h3
    rcases open_ints Try.underlying23 Try.underlying5 (by kernel_rfl) hf with ⟨hcs, _⟩ | ⟨x, l, c, zs, hcs, _, hl, hm, hz, _, hcell, hwz⟩
    · simp [Value.cells] at hcs
      obtain ⟨rfl, rfl, rfl⟩ := hcs
      exact ⟨[], .inl ⟨rfl, rfl, rfl, rfl⟩⟩
    · simp [Value.cells] at hcs
      obtain ⟨rfl, rfl, rfl⟩ := hcs
      exact ⟨zs, .inr ⟨_, rfl, hl, hm, by simpa using hz, hcell, hwz⟩⟩
  clear hA0 hval0
  refine (walk a0 a1 a2 a3 len3 cap3 z3 W w0 w1 w2 w3).mono fun e W' ⟨he, bel⟩ => ?_
  subst he
  exact ⟨_, rfl, _, _, _, [], _, [], hW', trodAll_mk1 (shut_bool Try.underlying4 _), (trodAll_cons_mk (shut_int Try.underlying5 w0) (trodAll_cons_mk (shut_int Try.underlying22 w1) (trodAll_cons_mk (shut_int Try.underlying5 w2) (trodAll_cons_mk (Below.trod laidOut (by kernel_rfl) (of_decide_eq_true (by kernel_rfl)) k3 bel lt3) trodAll_mk0)))), rfl, bel.frame _, fun h => by cases h⟩

theorem over : Rows.fnHeadDecodesEveryEncodingRow.holds Try.pinned (OpenSpec.ofChange Rows.fnHeadDecodesEveryEncodingSpec) :=
  OpenClaim.holds_of_wide 3 Try.f3 rfl rfl rfl rfl rfl rfl rfl ⟨rfl, rfl, rfl, rfl, rfl⟩ rfl rfl rfl rfl rfl (by kernel_rfl) Try.func3 (by kernel_rfl)
    (of_decide_eq_true (by kernel_rfl)) (by unfold Func.isWrapper; first | (rw [if_pos (by decide +kernel)]; kernel_rfl) | (rw [if_neg (by decide +kernel)]; exact ⟨rfl, rfl⟩))
    (fun os started H enc _ => lifted os started H enc)

/-- ████ THE STATEMENT ████ -/
theorem proved : Rows.FnHeadDecodesEveryEncodingSaid := over
end Go.Proofs.Qxb6602835a.fnHeadDecodesEveryEncoding

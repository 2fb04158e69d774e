import Derived.Test.Qxb6603245aFill
namespace Go.Proofs.Qxb6603245a.imsi
open Go.ChangeShapes Go.WideShapes Go.ChangeAt Go.RowKit

/-- The j-th byte of a text. -/
def byteAt (s : ByteArray) (j : Nat) : Int := ((s.data.toList.getD j 0).toNat : Int)
theorem byteAt_eq (s : ByteArray) (j : Nat) (h : j < s.size) : ((s[j]'h).toNat : Int) = byteAt s j := by
  have h' : j < s.data.toList.length := by simpa using h
  unfold byteAt
  rw [List.getD, List.getElem?_eq_getElem h', Option.getD_some]
  rfl
/-- What the law lays down for a text. -/
def digit (s : ByteArray) (j : Nat) : Int := valC (byteAt s j)

theorem sixteen_text {s : ByteArray} (hall : ∀ j, j < s.size → okC (byteAt s j)) : Sixteen (canon (digit s) s.size) :=
  sixteen_canon fun j hj => by have := val_bd (hall j hj); unfold digit; omega

/-- THE PLAIN LAW: what was packed reads back. -/
theorem text_back {s : ByteArray} {n : Nat} (h16 : s.size ≤ 16) (hall : ∀ j, j < s.size → okC (byteAt s j)) (hst : Stop (packL (canon (digit s) s.size)) n) :
    text (packL (canon (digit s) s.size)) n = s := by
  have hS := sixteen_text hall
  have hn : ∀ j, j < 16 → nib (packL (canon (digit s) s.size)) j = if j < s.size then digit s j else 15 := fun j hj => by
    rw [nib_pack hS j hj, canon_getD _ _ _ hj]
  have hst' : Stop (packL (canon (digit s) s.size)) s.size := by
    refine ⟨h16, fun j hj => ?_, ?_⟩
    · rw [hn j (by omega), if_pos hj]
      have := val_bd (hall j hj)
      unfold digit
      omega
    · by_cases e : s.size = 16
      · exact .inl e
      · refine .inr ?_
        rw [hn _ (by omega), if_neg (by omega)]
  have e := hst.uniq hst'
  subst e
  have hd : ((List.range s.size).map (chB (packL (canon (digit s) s.size)))) = s.data.toList := by
    apply List.ext_getElem?
    intro j
    by_cases hj : j < s.size
    · have hj' : j < s.data.toList.length := by simpa using hj
      have hb := hall j hj
      have e1 : chB (packL (canon (digit s) s.size)) j = s.data.toList[j] := by
        unfold chB
        rw [hn j (by omega), if_pos hj]
        unfold digit
        rw [chr_val hb]
        unfold byteAt
        rw [List.getD, List.getElem?_eq_getElem hj', Option.getD_some]
        simp
      simp [e1, hj]
    · have hj' : s.data.toList.length ≤ j := by simpa using hj
      rw [List.getElem?_eq_none hj', List.getElem?_eq_none (by simp; omega)]
  unfold text
  rw [hd]

/-- zzBytes_.. -/
theorem zzs_yes (s : ByteArray) (h : s.size ≤ 1048576) (w : World) : Calls Try.prog 11 #[.string s] w fun e w' => e = .returned (.bool true) ∧ w = w' := by
  go_enter Try.func11, Try.ntmps11
  go_wp2
  go_ret
  exact ⟨rfl, rfl⟩
theorem zzs_no (s : ByteArray) (h : 1048576 < s.size) (hm : s.size ≤ maxLen) (w : World) : Calls Try.prog 11 #[.string s] w fun e w' => e = .returned (.bool false) ∧ w = w' := by
  unfold maxLen at hm
  go_enter Try.func11, Try.ntmps11
  go_wp2
  go_ret
  exact ⟨rfl, rfl⟩

theorem inv_long (s : ByteArray) (h : 16 < s.size) (hm : s.size ≤ maxLen) (w : World) : Calls Try.prog 4 #[.string s] w fun e w' => e = .returned (.bool true) ∧ Below w.heap.size w w' := by
  by_cases h1 : s.size ≤ 1048576
  · by_cases h2 : s.size ≤ 4096
    · go_enter Try.func4, Try.ntmps4
      go_wp2_with fail
      refine (zzs_yes s h1 _).mono ?_
      rintro e w' ⟨rfl, rfl⟩
      go_wp2
      go_ret
      exact ⟨rfl, Below.refl _ _⟩
    · go_enter Try.func4, Try.ntmps4
      go_wp2_with fail
      refine (zzs_yes s h1 _).mono ?_
      rintro e w' ⟨rfl, rfl⟩
      go_wp2
      go_ret
      exact ⟨rfl, Below.refl _ _⟩
  · go_enter Try.func4, Try.ntmps4
    go_wp2_with fail
    refine (zzs_no s (by omega) hm _).mono ?_
    rintro e w' ⟨rfl, rfl⟩
    go_wp2
    go_ret
    exact ⟨rfl, Below.refl _ _⟩

set_option maxHeartbeats 1000000 in
theorem inv_short (s : ByteArray) (h16 : s.size ≤ 16) (w : World) : Calls Try.prog 4 #[.string s] w fun e w' => e = .returned (.bool true) ∧ Below w.heap.size w w' := by
  go_enter Try.func4, Try.ntmps4
  go_wp2_with fail
  refine (zzs_yes s (by omega) _).mono ?_
  rintro e w' ⟨rfl, rfl⟩
  go_wp2_with fail
  go_loopw [4] (fun i wr => ∃ (k : Nat) (ns : List Int), k ≤ 16 ∧ i = .int .i64 k ∧ Holds16 wr w.heap.size ns ∧ (∀ j, j < k → ns.getD j 0 = 15) ∧ Below w.heap.size w wr) (fun i _ => 16 - (intOf i).toNat)
  case atStart => exact ⟨0, List.replicate 16 0, Nat.zero_le _, rfl, ⟨rfl, heap_alloc_new w _⟩, fun j hj => by omega, (Below.refl _ _).alloc (Nat.le_refl _) _⟩
  case round =>
    obtain ⟨k, ns, hk, rfl, hh, hall, hbel⟩ := hrel
    by_cases hlt : k < 16
    · have hc := hh.cell k hlt
      have hf := hh.free k
      have hh' := hh.set k 15
      have HA : Hid (∀ j, j < k + 1 → (ns.set k 15).getD j 0 = 15) := set_fill hh.1 hall hlt
      clear hall
      go_wp2_with fail
      go_roundw
      case rel => exact ⟨k + 1, ns.set k 15, by omega, by go_num, hh', HA.out, hbel.setCell (Nat.le_refl _) _⟩
      case measure => simp [intOf]; omega
    · have ec := all_fill (digit s) hh.1 (fun j hj => hall j (by omega))
      subst ec
      clear hall
      go_wp2_with fail
      go_loopw [5] (fun i wr => ∃ k : Nat, k ≤ s.size ∧ i = .int .i64 k ∧ Holds16 wr w.heap.size (canon (digit s) k) ∧ (∀ j, j < k → okC (byteAt s j)) ∧ Below w.heap.size w wr) (fun i _ => s.size - (intOf i).toNat)
      case atStart => exact ⟨0, Nat.zero_le _, rfl, hh, fun j hj => by omega, hbel⟩
      case round =>
        obtain ⟨k, hk, rfl, hh2, hall, hbel2⟩ := hrel
        clear hh hbel
        have hs2 : w.heap.size ≤ wr.heap.size := hbel2.size
        by_cases hlt : k < s.size
        · obtain ⟨c, hc⟩ : ∃ c, c = byteAt s k := ⟨_, rfl⟩
          have hck : ((s[k]'hlt).toNat : Int) = c := by rw [hc]; exact byteAt_eq s k hlt
          have hcell := hh2.cell k (by omega)
          have hfree := hh2.free k
          by_cases hok : okC c
          · have hv := val_bd hok
            obtain ⟨d, hd⟩ : ∃ d, d = valC c := ⟨_, rfl⟩
            have hset : Holds16 (wr.setCell ⟨w.heap.size, k, none⟩ (.int .u8 d)) w.heap.size (canon (digit s) (k + 1)) := by
              have := hh2.set k d
              have e : d = digit s k := by rw [hd, hc]; rfl
              rw [e, canon_set _ _ (by omega), ← e] at this
              exact this
            have HA : Hid (∀ j, j < k + 1 → okC (byteAt s j)) := by
              intro j hj
              by_cases e : j = k
              · rw [e, ← hc]; exact hok
              · exact hall j (by omega)
            have HO : Hid (okC c) := hok
            have HD : Hid (d = valC c) := hd
            clear hall hok hc hd hv
            go_wp2_with fail
            refine (char_yes_at c d _ HO.out HD.out.symm).mono ?_
            rintro e w' ⟨rfl, rfl⟩
            go_wp2
            go_roundw
            case rel => exact ⟨k + 1, by omega, by go_num, hset, HA.out, hbel2.setCell (Nat.le_refl _) _⟩
            case measure => simp [intOf]; omega
          · have HO : Hid (¬ okC c) := hok
            clear hall hok hc
            go_wp2_with fail
            refine (char_no c _ HO.out).mono ?_
            rintro e w' ⟨rfl, rfl⟩
            go_wp2
            go_ret
            exact ⟨rfl, hbel2⟩
        · have he : k = s.size := by omega
          subst he
          have hS := sixteen_text hall
          have HB : Hid (wr.heap[w.heap.size]? = some (.cells (bytesA (canon (digit s) s.size)) 30)) := hh2.2
          have HI : Hid ((Try.prog.info? 30).map (·.size) = some (bytesA (canon (digit s) s.size)).size) := hh2.info
          have HA : Hid (∀ j, j < s.size → okC (byteAt s j)) := hall
          clear hall hh2
          go_wp2_with (refine wpList_load_guard (by rfl) 30 _ (by rfl) w.heap.size (by rfl) 30 _ _ _ HB.out Try.underlying30 rfl HI.out ?_)
          refine (pack_any _ _ hS).mono ?_
          rintro e w1 ⟨rfl, hb1⟩
          go_wp2_with fail
          refine (str_any _ _ (eight_pack hS)).mono ?_
          rintro e w2 ⟨n, rfl, hst, hb2⟩
          have hw2 : Below w.heap.size w w2 := (hbel2.trans (hb1.mono hs2)).trans (hb2.mono (Nat.le_trans hs2 hb1.size))
          have htx := text_back h16 HA.out hst
          rw [htx]
          clear htx hst hb1 hb2
          go_wp2
          go_ret
          exact ⟨rfl, hw2⟩
end Go.Proofs.Qxb6603245a.imsi

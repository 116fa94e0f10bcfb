import Derived.Test.Qxb6600664aUnion
namespace Go.Proofs.Qxb6600664a
open Go.RowKit
set_option linter.unusedVariables false
set_option linter.unusedSimpArgs false

theorem make22 (n : Nat) (hn : n ≤ 1000000) (w : World) : (Instr.makeSlice 22 (.int .i64 (n : Int)) (.int .i64 (n : Int))).run Try.prog w = .ok (.slice (some ⟨w.heap.size, 0, none⟩) n n) (w.alloc (.cells (madeCells #[.string ByteArray.empty] n) 9)) :=
  run_make_row' 22 9 (.string ByteArray.empty) 16 Try.underlying22 info9 rfl .i64 .i64 n (by omega) (by omega) w

set_option maxHeartbeats 400000 in
theorem clone_some (a : Addr) (c0 : Nat) (xs : List ByteArray) (w : World) (h0 : StrRow w (some a) xs) (hl : xs.length ≤ 1000000) :
    Calls Try.prog 11 #[.slice (some a) xs.length c0] w fun e w' => ∃ v, e = .returned v ∧ StrSl w' v xs ∧ Below w.heap.size w w' ∧ ∀ g, v.ownBlock = some g → w.heap.size ≤ g := by
  have hmk := make22 xs.length hl
  have hnil : ∀ w, (binOp .eql 22 (.slice (some a) xs.length c0) (.slice none 0 0)).run Try.prog w = .ok (.bool false) w := fun w => by
    rw [Lib.run_eql_slice_nil w 22 9 (some a) xs.length c0 0 0 Try.underlying22]; rfl
  go_enter Try.func11, Try.ntmps11
  go_wp2
  go_loopw [4] (fun v wr => ∃ (k : Nat) (f : Nat → Value), k ≤ xs.length ∧ v = .int .i64 k ∧ wr.rowIs w.heap.size 9 xs.length f ∧ Hid (∀ i (h : i < xs.length), i < k → f i = .string xs[i]) ∧ Below w.heap.size w wr) (fun v _ => xs.length - (intOf v).toNat)
  case atStart => exact ⟨0, _, Nat.zero_le _, rfl, World.rowIs_made w _ _ _, fun i _ h => absurd h (Nat.not_lt_zero _), (Below.refl _ _).alloc (Nat.le_refl _) _⟩
  case round =>
    obtain ⟨k, f, hk, rfl, hrow, HL, hbel⟩ := hrel
    by_cases hlt : k < xs.length
    · obtain ⟨b0, o0, ha, hb0, hc0⟩ := h0.at (by omega)
      cases ha
      have x0 := (hbel.cell (p := ⟨b0, o0 + k, none⟩) hb0).trans (hc0 k hlt)
      clear hc0
      have y0 := hrow.cell hlt
      have z0 := hrow.frozen k
      have hi0 : (k : Int) < (xs.length : Int) := by omega
      have HR := hide hrow
      clear hrow
      go_wp2
      go_roundw
      case rel =>
        refine ⟨k + 1, _, by omega, by go_num, HR.out.set k _, ?_, hbel.setCell (Nat.le_refl _) _⟩
        intro i hi hik
        by_cases e : i = k
        · subst e; rw [if_pos rfl]
        · rw [if_neg e]; exact HL.out i hi (by omega)
      case measure => simp [intOf]; omega
    · go_wp2
      go_ret
      refine ⟨_, rfl, ⟨_, _, rfl, ⟨(fun e => by cases e), Nat.le_refl _⟩, h0.1, .inr ⟨w.heap.size, 0, rfl, hrow.lt, fun i hi => ?_⟩⟩, hbel, fun g hg => by simp [Value.ownBlock] at hg; omega⟩
      rw [Nat.zero_add, hrow.cell hi, HL.out i hi (by omega)]

/-- 'cpuCloneStrs': the same names in new memory. -/
theorem clone11f (v : Value) (xs : List ByteArray) (w : World) (h0 : StrSl w v xs) (hl : xs.length ≤ 1000000) :
    Calls Try.prog 11 #[v] w fun e w' => ∃ v, e = .returned v ∧ StrSl w' v xs ∧ Below w.heap.size w w' ∧ ∀ g, v.ownBlock = some g → w.heap.size ≤ g := by
  obtain ⟨a, c, rfl, hn, hr⟩ := h0
  cases a with
  | some a => exact clone_some a c xs w hr hl
  | none =>
    have hx := hr.none_nil
    subst hx
    obtain rfl : c = 0 := hn.1 rfl
    clear hn hr hl
    have hnil : ∀ w, (binOp .eql 22 (.slice none 0 0) (.slice none 0 0)).run Try.prog w = .ok (.bool true) w := fun w => by
      rw [Lib.run_eql_slice_nil w 22 9 none 0 0 0 0 Try.underlying22]; rfl
    rw [List.length_nil]
    go_enter Try.func11, Try.ntmps11
    go_wp2
    go_ret
    exact ⟨_, rfl, StrSl.nil w, Below.refl _ _, fun g hg => by simp [Value.ownBlock] at hg⟩

theorem clone11 (v : Value) (xs : List ByteArray) (w : World) (h0 : StrSl w v xs) (hl : xs.length ≤ 1000000) :
    Calls Try.prog 11 #[v] w fun e w' => ∃ v, e = .returned v ∧ StrSl w' v xs ∧ Below w.heap.size w w' := by
  refine (clone11f v xs w h0 hl).mono ?_
  rintro e w' ⟨v', rfl, h1, h2, _⟩
  exact ⟨v', rfl, h1, h2⟩

theorem beq_of_eq {a b : ByteArray} (h : a = b) : (a.toList == b.toList) = true := by simp [h]
theorem beq_of_ne {a b : ByteArray} (h : ¬ a = b) : (a.toList == b.toList) = false := by
  rw [Bool.eq_false_iff]
  intro hh
  exact h (bytes_ext (by simpa using hh))

set_option maxHeartbeats 400000 in
/-- 'cpuMember'. -/
theorem member13 (v : Value) (xs : List ByteArray) (s : ByteArray) (w : World) (h0 : StrSl w v xs) (hl : xs.length ≤ 1000000) :
    Calls Try.prog 13 #[v, .string s] w fun e w' => e = .returned (.bool (isIn xs s)) ∧ w' = w := by
  obtain ⟨a, c, rfl, hn, hr⟩ := h0
  clear hn
  go_enter Try.func13, Try.ntmps13
  go_wp2
  go_loop [5] (fun v => ∃ k : Nat, k ≤ xs.length ∧ v = .int .i64 k ∧ Hid (isIn (xs.take k) s = false)) (fun v => xs.length - (intOf v).toNat)
  case atStart => exact ⟨0, Nat.zero_le _, rfl, rfl⟩
  case round =>
    obtain ⟨k, hk, rfl, HN⟩ := hrel
    by_cases hlt : k < xs.length
    · obtain ⟨b0, o0, rfl, hb0, hc0⟩ := hr.at (by omega)
      have x0 := hc0 k hlt
      clear hc0
      have hi0 : (k : Int) < (xs.length : Int) := by omega
      by_cases he : xs[k] = s
      · have hq := beq_of_eq he
        have HE := hide he
        clear he
        go_wp2
        go_ret
        refine ⟨?_, rfl⟩
        rw [isIn_iff.2 (by rw [← HE.out]; exact List.getElem_mem hlt)]
        rfl
      · have hq := beq_of_ne he
        have HE := hide he
        clear he
        go_wp2
        go_round
        case rel =>
          refine ⟨k + 1, by omega, by go_num, ?_⟩
          show isIn (xs.take (k + 1)) s = false
          rw [List.take_succ_eq_append_getElem hlt, isIn_append, HN.out]
          simp [isIn, HE.out]
        case measure => simp [intOf]; omega
    · go_wp2
      go_ret
      refine ⟨?_, rfl⟩
      have h := HN.out
      rw [List.take_of_length_le (by omega)] at h
      rw [h]
      rfl

set_option maxHeartbeats 400000 in
theorem same_len (a0 a1 : Option Addr) (c0 c1 : Nat) (xs ys : List ByteArray) (w : World) (h0 : StrRow w a0 xs) (h1 : StrRow w a1 ys) (hl : xs.length ≤ 100000000) (hl1 : xs.length = ys.length) :
    Calls Try.prog 15 #[.slice a0 xs.length c0, .slice a1 ys.length c1] w fun e w' => ∃ r : Bool, e = .returned (.bool r) ∧ (r = true ↔ xs = ys) ∧ ∃ n, w' = w.drewN n := by
  have hb : ((xs.length : Int) != (ys.length : Int)) = false := by simp [hl1]
  have HL : Hid (xs.length = ys.length) := hl1
  clear hl1
  go_enter Try.func15, Try.ntmps15
  go_wp2
  go_loopw [5] (fun v wr => ∃ k : Nat, k ≤ xs.length ∧ v = .int .i64 k ∧ xs.take k = ys.take k ∧ ∃ n, wr = w.drewN n) (fun v _ => xs.length - (intOf v).toNat)
  case atStart => exact ⟨0, Nat.zero_le _, rfl, rfl, 0, rfl⟩
  case round =>
    obtain ⟨k, hk, rfl, htk, n, rfl⟩ := hrel
    have HT : Hid (xs.take k = ys.take k) := htk
    clear htk
    by_cases hlt : k < xs.length
    · have hlt1 : k < ys.length := by have := HL.out; omega
      obtain ⟨b0, o0, rfl, hb0, hc0⟩ := h0.at (by omega)
      obtain ⟨b1, o1, rfl, hb1, hc1⟩ := h1.at (by omega)
      have x0 := hc0 k hlt
      have y0 := hc1 k hlt1
      clear hc0 hc1
      have hi0 : (k : Int) < (xs.length : Int) := by omega
      have hi1 : (k : Int) < (ys.length : Int) := by omega
      by_cases he : xs[k] = ys[k]
      · have hq := beq_of_eq he
        have HE : Hid (xs[k] = ys[k]) := he
        clear he
        go_wp2
        go_quiet (fail)
        go_wp2
        go_roundw
        case rel => exact ⟨k + 1, by omega, by go_num, take_step hlt hlt1 HT.out HE.out, _, rfl⟩
        case measure => simp [intOf]; omega
      · have hq := beq_of_ne he
        have HE : Hid (¬ xs[k] = ys[k]) := he
        clear he
        go_wp2
        go_quiet (fail)
        go_wp2
        go_ret
        refine ⟨false, rfl, ?_, _, by first | rfl | exact World.drewN_drewN _ _ _⟩
        simp
        intro hh
        exact HE.out (by simp [hh])
    · go_wp2
      go_ret
      refine ⟨true, rfl, ?_, n, rfl⟩
      have := HL.out
      have htk := HT.out
      rw [List.take_of_length_le (by omega), List.take_of_length_le (by omega)] at htk
      simp [htk]

/-- 'cpuSame'. -/
theorem same15 (v0 v1 : Value) (xs ys : List ByteArray) (w : World) (h0 : StrSl w v0 xs) (h1 : StrSl w v1 ys) (hl : xs.length ≤ 100000000) :
    Calls Try.prog 15 #[v0, v1] w fun e w' => ∃ r : Bool, e = .returned (.bool r) ∧ (r = true ↔ xs = ys) ∧ Below w.heap.size w w' := by
  obtain ⟨a0, c0, rfl, _, hr0⟩ := h0
  obtain ⟨a1, c1, rfl, _, hr1⟩ := h1
  by_cases h : xs.length = ys.length
  · refine (same_len a0 a1 c0 c1 xs ys w hr0 hr1 hl h).mono ?_
    rintro e w' ⟨r, rfl, hr, n, rfl⟩
    exact ⟨r, rfl, hr, below_drewN _ _ _⟩
  · have hb : ((xs.length : Int) != (ys.length : Int)) = true := by simp; omega
    have HN : Hid (¬ xs.length = ys.length) := h
    clear h
    go_enter Try.func15, Try.ntmps15
    go_wp2
    go_ret
    refine ⟨false, rfl, ?_, Below.refl _ _⟩
    simp
    intro hh
    exact HN.out (by rw [hh])

/-- The call returned some int. -/
def SomeInt (e : Ending) : Prop := ∃ z : Int, e = .returned (.int .i64 z)
theorem SomeInt.mk (z : Int) : SomeInt (.returned (.int .i64 z)) := ⟨z, rfl⟩

set_option maxHeartbeats 400000 in
/-- 'cpuStrsBytes': some number; nothing written. -/
theorem strsBytes28 (v : Value) (xs : List ByteArray) (z : Int) (w : World) (h0 : StrSl w v xs) (hl : xs.length ≤ 9223372036854775807) :
    Calls Try.prog 28 #[v, .int .i64 z] w fun e w' => SomeInt e ∧ w' = w := by
  obtain ⟨a, c, rfl, hn, hr⟩ := h0
  clear hn
  go_enter Try.func28, Try.ntmps28
  go_wp2
  go_loop [1, 5] (fun u v => ∃ (k : Nat) (y : Int), k ≤ xs.length ∧ v = .int .i64 k ∧ u = .int .i64 y) (fun _ v => xs.length - (intOf v).toNat)
  case atStart => exact ⟨0, z, Nat.zero_le _, rfl, rfl⟩
  case round =>
    obtain ⟨k, y, hk, rfl, rfl⟩ := hrel
    by_cases hlt : k < xs.length
    · obtain ⟨b0, o0, rfl, hb0, hc0⟩ := hr.at (by omega)
      have x0 := hc0 k hlt
      clear hc0
      have hi0 : (k : Int) < (xs.length : Int) := by omega
      go_wp2
      any_goals (go_ret; exact ⟨SomeInt.mk _, rfl⟩)
      go_round
      case rel => exact ⟨k + 1, _, by omega, by go_num, rfl⟩
      case measure => simp [intOf]; omega
    · go_wp2
      go_ret
      exact ⟨SomeInt.mk _, rfl⟩

/-- 'ZZUnion'. -/
theorem zzunion12 (v0 v1 : Value) (xs ys : List ByteArray) (w : World) (h0 : StrSl w v0 xs) (h1 : StrSl w v1 ys) (hl : xs.length ≤ 1000000) (hl1 : ys.length ≤ 1000000) :
    Calls Try.prog 12 #[v0, v1] w fun e w' => ∃ v, e = .returned v ∧ StrSl w' v (unionL xs ys) ∧ Below w.heap.size w w' := by
  go_enter Try.func12, Try.ntmps12
  go_wp2_with fail
  refine (union29 v0 v1 xs ys w h0 h1 hl hl1).mono ?_
  rintro e w' ⟨v, rfl, hv, hb⟩
  go_wp2
  go_ret
  exact ⟨v, rfl, hv, hb⟩
end Go.Proofs.Qxb6600664a

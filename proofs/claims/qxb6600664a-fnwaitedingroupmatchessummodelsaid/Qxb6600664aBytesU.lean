import Derived.Test.Qxb6600664aStr
namespace Go.Proofs.Qxb6600664a
open Go.RowKit
set_option linter.unusedVariables false
set_option linter.unusedSimpArgs false

/-- The call returned some bool; if it said no, p. -/
def IfNo (e : Ending) (p : Prop) : Prop := ∃ r : Bool, e = .returned (.bool r) ∧ (r = false → p)
theorem IfNo.yes (p : Prop) : IfNo (.returned (.bool true)) p := ⟨true, rfl, fun h => by cases h⟩
theorem IfNo.mk (r : Bool) {p : Prop} (h : p) : IfNo (.returned (.bool r)) p := ⟨r, rfl, fun _ => h⟩

set_option maxHeartbeats 1000000 in
set_option maxRecDepth 100000 in
theorem bytes9 (v0 v1 : Value) (xs ys : List ByteArray) (w : World) (h0 : StrSl w v0 xs) (h1 : StrSl w v1 ys) (hl0 : xs.length ≤ 9223372036854775807) (hl1 : ys.length ≤ 9223372036854775807) :
    Calls Try.prog 9 #[v0, v1] w fun e w' => SomeBool e ∧ w' = w := by
  obtain ⟨a0, c0, rfl, hn0, hr0⟩ := h0
  obtain ⟨a1, c1, rfl, hn1, hr1⟩ := h1
  clear hn0 hn1
  go_enter Try.func9, Try.ntmps9
  go_wp2
  any_goals (go_ret; exact ⟨SomeBool.mk _, rfl⟩)
  go_loop [5, 6] (fun z v => ∃ (k : Nat) (n : Int), k ≤ xs.length ∧ v = .int .i64 k ∧ z = .int .i64 n) (fun _ v => xs.length - (intOf v).toNat)
  case atStart => exact ⟨0, _, Nat.zero_le _, rfl, rfl⟩
  case round =>
    obtain ⟨k, n, hk, rfl, rfl⟩ := hrel
    by_cases hlt : k < xs.length
    · obtain ⟨b0, o0, rfl, hb0, hc0⟩ := hr0.at (by omega)
      have x0 := hc0 k hlt
      clear hc0
      have hi0 : (k : Int) < (xs.length : Int) := by omega
      go_wp2
      any_goals (go_ret; exact ⟨SomeBool.mk _, rfl⟩)
      go_round
      case rel => exact ⟨k + 1, _, by omega, by go_num, rfl⟩
      case measure => simp [intOf]; omega
    · go_wp2
      any_goals (go_ret; exact ⟨SomeBool.mk _, rfl⟩)
      go_loop [5, 7] (fun z v => ∃ (k : Nat) (n : Int), k ≤ ys.length ∧ v = .int .i64 k ∧ z = .int .i64 n) (fun _ v => ys.length - (intOf v).toNat)
      case atStart => exact ⟨0, _, Nat.zero_le _, rfl, rfl⟩
      case round =>
        obtain ⟨k1, n1, hk1, rfl, rfl⟩ := hrel
        by_cases hlt1 : k1 < ys.length
        · obtain ⟨b0, o0, rfl, hb0, hc0⟩ := hr1.at (by omega)
          have x0 := hc0 k1 hlt1
          clear hc0
          have hi0 : (k1 : Int) < (ys.length : Int) := by omega
          go_wp2
          any_goals (go_ret; exact ⟨SomeBool.mk _, rfl⟩)
          go_round
          case rel => exact ⟨k1 + 1, _, by omega, by go_num, rfl⟩
          case measure => simp [intOf]; omega
        · go_wp2
          any_goals (go_ret; exact ⟨SomeBool.mk _, rfl⟩)

set_option maxHeartbeats 1000000 in
set_option maxRecDepth 100000 in
theorem bytes16 (v0 v1 : Value) (xs ys : List ByteArray) (w : World) (h0 : StrSl w v0 xs) (h1 : StrSl w v1 ys) (hl0 : xs.length ≤ 9223372036854775807) (hl1 : ys.length ≤ 9223372036854775807) :
    Calls Try.prog 16 #[v0, v1] w fun e w' => SomeBool e ∧ w' = w := by
  obtain ⟨a0, c0, rfl, hn0, hr0⟩ := h0
  obtain ⟨a1, c1, rfl, hn1, hr1⟩ := h1
  clear hn0 hn1
  go_enter Try.func16, Try.ntmps16
  go_wp2
  any_goals (go_ret; exact ⟨SomeBool.mk _, rfl⟩)
  go_loop [5, 6] (fun z v => ∃ (k : Nat) (n : Int), k ≤ xs.length ∧ v = .int .i64 k ∧ z = .int .i64 n) (fun _ v => xs.length - (intOf v).toNat)
  case atStart => exact ⟨0, _, Nat.zero_le _, rfl, rfl⟩
  case round =>
    obtain ⟨k, n, hk, rfl, rfl⟩ := hrel
    by_cases hlt : k < xs.length
    · obtain ⟨b0, o0, rfl, hb0, hc0⟩ := hr0.at (by omega)
      have x0 := hc0 k hlt
      clear hc0
      have hi0 : (k : Int) < (xs.length : Int) := by omega
      go_wp2
      any_goals (go_ret; exact ⟨SomeBool.mk _, rfl⟩)
      go_round
      case rel => exact ⟨k + 1, _, by omega, by go_num, rfl⟩
      case measure => simp [intOf]; omega
    · go_wp2
      any_goals (go_ret; exact ⟨SomeBool.mk _, rfl⟩)
      go_loop [5, 7] (fun z v => ∃ (k : Nat) (n : Int), k ≤ ys.length ∧ v = .int .i64 k ∧ z = .int .i64 n) (fun _ v => ys.length - (intOf v).toNat)
      case atStart => exact ⟨0, _, Nat.zero_le _, rfl, rfl⟩
      case round =>
        obtain ⟨k1, n1, hk1, rfl, rfl⟩ := hrel
        by_cases hlt1 : k1 < ys.length
        · obtain ⟨b0, o0, rfl, hb0, hc0⟩ := hr1.at (by omega)
          have x0 := hc0 k1 hlt1
          clear hc0
          have hi0 : (k1 : Int) < (ys.length : Int) := by omega
          go_wp2
          any_goals (go_ret; exact ⟨SomeBool.mk _, rfl⟩)
          go_round
          case rel => exact ⟨k1 + 1, _, by omega, by go_num, rfl⟩
          case measure => simp [intOf]; omega
        · go_wp2
          any_goals (go_ret; exact ⟨SomeBool.mk _, rfl⟩)

set_option maxHeartbeats 400000 in
/-- 'cpuListsTooBig(a, b, nil)': if it says no, both lists are short. -/
theorem tooBig10 (v0 v1 : Value) (xs ys : List ByteArray) (w : World) (h0 : StrSl w v0 xs) (h1 : StrSl w v1 ys) (hl0 : xs.length ≤ 9223372036854775807) (hl1 : ys.length ≤ 9223372036854775807) :
    Calls Try.prog 10 #[v0, v1, .slice none 0 0] w fun e w' => IfNo e (xs.length ≤ 4096 ∧ ys.length ≤ 4096) ∧ w' = w := by
  obtain ⟨a0, c0, rfl, hn0, hr0⟩ := h0
  obtain ⟨a1, c1, rfl, hn1, hr1⟩ := h1
  have s0 : StrSl w (.slice a0 xs.length c0) xs := ⟨a0, c0, rfl, hn0, hr0⟩
  have s1 : StrSl w (.slice a1 ys.length c1) ys := ⟨a1, c1, rfl, hn1, hr1⟩
  clear hn0 hn1 hr0 hr1
  by_cases hA : (4096 : Int) < (xs.length : Int)
  · have dA : decide ((4096 : Int) < (xs.length : Int)) = true := by simpa using hA
    go_enter Try.func10, Try.ntmps10
    go_wp2_with fail
    go_ret
    exact ⟨IfNo.yes _, rfl⟩
  · have dA : decide ((4096 : Int) < (xs.length : Int)) = false := by simpa using hA
    by_cases hB : (4096 : Int) < (ys.length : Int)
    · have dB : decide ((4096 : Int) < (ys.length : Int)) = true := by simpa using hB
      go_enter Try.func10, Try.ntmps10
      go_wp2_with fail
      go_ret
      exact ⟨IfNo.yes _, rfl⟩
    · have dB : decide ((4096 : Int) < (ys.length : Int)) = false := by simpa using hB
      go_enter Try.func10, Try.ntmps10
      go_wp2_with fail
      refine (strsBytes28 _ xs 0 w s0 hl0).mono ?_
      rintro e w1 ⟨⟨z1, rfl⟩, hw⟩
      obtain rfl : w = w1 := hw.symm
      go_wp2_with fail
      refine (strsBytes28 _ ys z1 w s1 hl1).mono ?_
      rintro e w1 ⟨⟨z2, rfl⟩, hw⟩
      obtain rfl : w = w1 := hw.symm
      go_wp2_with fail
      refine (strsBytes28 _ [] z2 w (StrSl.nil w) (by simp)).mono ?_
      rintro e w1 ⟨⟨z3, rfl⟩, hw⟩
      obtain rfl : w = w1 := hw.symm
      go_wp2_with fail
      go_ret
      exact ⟨IfNo.mk _ ⟨by omega, by omega⟩, rfl⟩

end Go.Proofs.Qxb6600664a

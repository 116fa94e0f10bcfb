import Derived.Test.Qxb6600367aMem
namespace Go.Proofs.Qxb6600367a
open Go.RowKit
set_option linter.unusedVariables false
set_option linter.unusedSimpArgs false

/-- 'sameEntries' over two lists of one length. -/
theorem same_any (a0 a1 : Option Addr) (c0 c1 : Nat) (xs ys : List Ent) (w : World) (h0 : EntRow w a0 xs) (h1 : EntRow w a1 ys) (hl : xs.length ≤ 1000000) (hl1 : xs.length = ys.length) :
    Calls Try.prog 23 #[.slice a0 xs.length c0, .slice a1 ys.length c1] w fun e w' => ∃ r : Bool, e = .returned (.bool r) ∧ (r = true ↔ xs = ys) ∧ ∃ n, w' = w.drewN n := by
  have hb : ((xs.length : Int) != (ys.length : Int)) = false := by simp [hl1]
  have HL : Hid (xs.length = ys.length) := hl1
  clear hl1
  go_enter Try.func23, Try.ntmps23
  go_wp2
  go_loopw [13] (fun v wr => ∃ k : Nat, k ≤ xs.length ∧ v = .int .i64 k ∧ xs.take k = ys.take k ∧ ∃ n, wr = w.drewN n) (fun v _ => xs.length - (intOf v).toNat)
  case atStart => exact ⟨0, Nat.zero_le _, rfl, rfl, 0, rfl⟩
  case round =>
    obtain ⟨k, hk, rfl, htk, n, rfl⟩ := hrel
    have HT : Hid (xs.take k = ys.take k) := htk
    clear htk
    by_cases hlt : k < xs.length
    · have hlt1 : k < ys.length := by have := HL.out; omega
      obtain ⟨b0, o0, rfl, hb0, hc0⟩ := h0.at (by omega)
      obtain ⟨b1, o1, rfl, hb1, hc1⟩ := h1.at (by omega)
      obtain ⟨x0, x1, x2⟩ := hc0 k hlt
      obtain ⟨y0, y1, y2⟩ := hc1 k hlt1
      clear hc0 hc1
      have hi0 : (k : Int) < (xs.length : Int) := by omega
      have hi1 : (k : Int) < (ys.length : Int) := by omega
      by_cases he : xs[k] = ys[k]
      · have hq := fun w => neq_same w xs[k] ys[k] he
        have HE : Hid (xs[k] = ys[k]) := he
        clear he
        go_wp2
        go_quiet (fail)
        go_wp2
        go_roundw
        case rel => exact ⟨k + 1, by omega, by go_num, take_step hlt hlt1 HT.out HE.out, _, rfl⟩
        case measure => simp [intOf]; omega
      · have hq := fun w => neq_diff w xs[k] ys[k] he
        have HE : Hid (¬ xs[k] = ys[k]) := he
        clear he
        go_wp2
        go_quiet (fail)
        go_wp2
        go_ret
        refine ⟨false, rfl, ?_, _, World.drewN_drewN _ _ _⟩
        simp
        intro hh
        exact HE.out (by simp [hh])
    · go_wp2
      go_ret
      refine ⟨true, rfl, ?_, n, rfl⟩
      have := HL.out
      have htk := HT.out
      rw [List.take_of_length_le (by omega), List.take_of_length_le (by omega)] at htk
      simp [htk]

/-- 'sameEntries' over two lists of whatever lengths. -/
theorem same_all (a0 a1 : Option Addr) (c0 c1 : Nat) (xs ys : List Ent) (w : World) (h0 : EntRow w a0 xs) (h1 : EntRow w a1 ys) (hl : xs.length ≤ 1000000) (hl1 : ys.length ≤ 1000000) :
    Calls Try.prog 23 #[.slice a0 xs.length c0, .slice a1 ys.length c1] w fun e w' => ∃ r : Bool, e = .returned (.bool r) ∧ (r = true ↔ xs = ys) ∧ ∃ n, w' = w.drewN n := by
  by_cases h : xs.length = ys.length
  · exact same_any a0 a1 c0 c1 xs ys w h0 h1 hl h
  · have hb : ((xs.length : Int) != (ys.length : Int)) = true := by simp; omega
    have HN : Hid (¬ xs.length = ys.length) := h
    clear h
    go_enter Try.func23, Try.ntmps23
    go_wp2
    go_ret
    refine ⟨false, rfl, ?_, 0, rfl⟩
    simp
    intro hh
    exact HN.out (by rw [hh])

/-- 'ZZsameEntries'. -/
theorem zzsame (a0 a1 : Option Addr) (c0 c1 : Nat) (xs ys : List Ent) (w : World) (h0 : EntRow w a0 xs) (h1 : EntRow w a1 ys) (hl : xs.length ≤ 1000000) (hl1 : ys.length ≤ 1000000) :
    Calls Try.prog 16 #[.slice a0 xs.length c0, .slice a1 ys.length c1] w fun e w' => ∃ r : Bool, e = .returned (.bool r) ∧ (r = true ↔ xs = ys) ∧ Below w.heap.size w w' := by
  go_enter Try.func16, Try.ntmps16
  go_wp2_with fail
  refine (same_all a0 a1 c0 c1 xs ys w h0 h1 hl hl1).mono ?_
  rintro e w' ⟨r, rfl, hr, n, rfl⟩
  have HR := hide hr
  clear hr
  go_wp2
  go_ret
  exact ⟨r, rfl, HR.out, below_drewN _ _ _⟩
end Go.Proofs.Qxb6600367a

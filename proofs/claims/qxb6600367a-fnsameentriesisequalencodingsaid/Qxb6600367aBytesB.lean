import Derived.Test.Qxb6600367aMem
namespace Go.Proofs.Qxb6600367a
open Go.RowKit
set_option linter.unusedVariables false
set_option linter.unusedSimpArgs false

set_option maxHeartbeats 1000000 in
set_option maxRecDepth 100000 in
/-- The bound on total length: some bool, nothing written. -/
theorem bytes14 (a0 a1 : Option Addr) (c0 c1 : Nat) (xs ys : List Ent) (w : World) (h0 : EntRow w a0 xs) (h1 : EntRow w a1 ys) (hl0 : xs.length ≤ 9223372036854775807) (hl1 : ys.length ≤ 9223372036854775807) :
    Calls Try.prog 14 #[.slice a0 xs.length c0, .slice a1 ys.length c1] w fun e w' => SomeBool e ∧ w' = w := by
  go_enter Try.func14, Try.ntmps14
  go_wp2
  any_goals (go_ret; exact ⟨SomeBool.mk _, rfl⟩)
  go_loop [5, 6] (fun z v => ∃ (k : Nat) (n : Int), k ≤ xs.length ∧ v = .int .i64 k ∧ z = .int .i64 n) (fun _ v => xs.length - (intOf v).toNat)
  case atStart => exact ⟨0, _, Nat.zero_le _, rfl, rfl⟩
  case round =>
    obtain ⟨k, n, hk, rfl, rfl⟩ := hrel
    by_cases hlt : k < xs.length
    · obtain ⟨b0, o0, rfl, hb0, hc0⟩ := h0.at (by omega)
      obtain ⟨x0, x1, x2⟩ := hc0 k hlt
      clear hc0
      have hi0 : (k : Int) < (xs.length : Int) := by omega
      go_wp2
      any_goals (go_ret; exact ⟨SomeBool.mk _, rfl⟩)
      go_round
      case rel => exact ⟨k + 1, _, by omega, by go_num, rfl⟩
      case measure => simp [intOf]; omega
    · go_wp2
      any_goals (go_ret; exact ⟨SomeBool.mk _, rfl⟩)
      go_loop [5, 7] (fun z v => ∃ (k : Nat) (n : Int), k ≤ ys.length ∧ v = .int .i64 k ∧ z = .int .i64 n) (fun _ v => ys.length - (intOf v).toNat)
      case atStart => exact ⟨0, _, Nat.zero_le _, rfl, rfl⟩
      case round =>
        obtain ⟨k1, n1, hk1, rfl, rfl⟩ := hrel
        by_cases hlt1 : k1 < ys.length
        · obtain ⟨b0, o0, rfl, hb0, hc0⟩ := h1.at (by omega)
          obtain ⟨x0, x1, x2⟩ := hc0 k1 hlt1
          clear hc0
          have hi0 : (k1 : Int) < (ys.length : Int) := by omega
          go_wp2
          any_goals (go_ret; exact ⟨SomeBool.mk _, rfl⟩)
          go_round
          case rel => exact ⟨k1 + 1, _, by omega, by go_num, rfl⟩
          case measure => simp [intOf]; omega
        · go_wp2
          any_goals (go_ret; exact ⟨SomeBool.mk _, rfl⟩)
end Go.Proofs.Qxb6600367a

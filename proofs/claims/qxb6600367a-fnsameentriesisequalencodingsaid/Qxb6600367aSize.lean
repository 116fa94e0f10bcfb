import Derived.Test.Qxb6600367aMem
namespace Go.Proofs.Qxb6600367a
open Go.RowKit
set_option linter.unusedVariables false
set_option linter.unusedSimpArgs false

/-- The size that 'zzB1Size' counts. -/
def total : List Ent → Nat
  | [] => 0
  | x :: r => (40 + x.s.size + x.d.size) + total r

theorem total_append (a b : List Ent) : total (a ++ b) = total a + total b := by
  induction a with
  | nil => simp [total]
  | cons x r ih => simp [total, ih]; omega

theorem total_step {xs : List Ent} {k : Nat} (h : k < xs.length) : total (xs.take (k + 1)) = total (xs.take k) + (40 + xs[k].s.size + xs[k].d.size) := by
  rw [List.take_succ_eq_append_getElem h, total_append]; simp [total]

set_option maxHeartbeats 400000 in
/-- 'zzB1Size': a count that is exact as far as 1<<20. -/
theorem size_any (a0 : Option Addr) (c0 : Nat) (xs : List Ent) (w : World) (h0 : EntRow w a0 xs) (hl : xs.length ≤ 1000000) :
    Calls Try.prog 15 #[.slice a0 xs.length c0] w fun e w' => ∃ n : Nat, e = .returned (.int .i64 n) ∧ n ≤ 4194304 ∧ (n ≤ 1048576 → n = total xs) ∧ ∃ m, w' = w.drewN m := by
  go_enter Try.func15, Try.ntmps15
  go_wp2
  go_loopw [3, 7] (fun z v wr => ∃ k : Nat, k ≤ xs.length ∧ v = .int .i64 k ∧ z = .int .i64 (total (xs.take k) : Nat) ∧ total (xs.take k) ≤ 1048576 ∧ ∃ n, wr = w.drewN n) (fun _ v _ => xs.length - (intOf v).toNat)
  case atStart => exact ⟨0, Nat.zero_le _, rfl, rfl, by simp [total], 0, rfl⟩
  case round =>
    obtain ⟨k, hk, rfl, rfl, hT, n, rfl⟩ := hrel
    by_cases hlt : k < xs.length
    · obtain ⟨b0, o0, rfl, hb0, hc0⟩ := h0.at (by omega)
      obtain ⟨x0, x1, x2⟩ := hc0 k hlt
      clear hc0
      have hi0 : (k : Int) < (xs.length : Int) := by omega
      have HS := hide (total_step hlt)
      by_cases hs : (1048576 : Int) < (xs[k].s.size : Int)
      · go_wp2
        go_ret
        exact ⟨1048577, rfl, by omega, fun h => absurd h (by omega), n, rfl⟩
      · by_cases hd : (1048576 : Int) < (xs[k].d.size : Int)
        · go_wp2
          go_ret
          exact ⟨1048577, rfl, by omega, fun h => absurd h (by omega), n, rfl⟩
        · have hs' : (xs[k].s.size : Int) ≤ 1048576 := by omega
          have hd' : (xs[k].d.size : Int) ≤ 1048576 := by omega
          clear hs hd
          have hT' : (total (xs.take k) : Int) ≤ 1048576 := by omega
          by_cases hn : (1048576 : Int) < (total (xs.take k) : Int) + (40 + (xs[k].s.size : Int) + (xs[k].d.size : Int))
          · go_wp2
            go_quiet (fail)
            go_wp2
            go_ret
            exact ⟨total (xs.take k) + (40 + xs[k].s.size + xs[k].d.size), ret_int (by omega), by omega, fun h => absurd h (by omega), _, rfl⟩
          · go_wp2
            go_quiet (fail)
            go_wp2
            go_roundw
            case rel => exact ⟨k + 1, by omega, by go_num, val_int (by rw [HS.out]; omega), by rw [HS.out]; omega, _, rfl⟩
            case measure => simp [intOf]; omega
    · go_wp2
      go_ret
      refine ⟨_, rfl, by omega, fun _ => ?_, n, rfl⟩
      rw [List.take_of_length_le (by omega)]
end Go.Proofs.Qxb6600367a

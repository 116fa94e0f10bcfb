import Derived.Test.Qxb6600367aPad
namespace Go.Proofs.Qxb6600367a
open Go.RowKit Go.ChangeShapes Go.WideShapes
set_option linter.unusedVariables false
set_option linter.unusedSimpArgs false

theorem bt_append (a b : ByteArray) (j : Nat) (h : j < b.size) : bt (a ++ b) (a.size + j) = bt b j := by
  have h1 : a.size + j < (a ++ b).size := by rw [ByteArray.size_append]; omega
  rw [bt_at h1, bt_at h]
  have : (a ++ b)[a.size + j] = b[j] := by
    rw [ByteArray.getElem_append_right (by omega)]
    congr 1
    omega
  rw [this]

theorem suf_padded (a : ByteArray) (n : Nat) (hn : n ≤ 9999999999) : Suf (a ++ padded n) n := by
  have hsz : (a ++ padded n).size = a.size + 10 := by rw [ByteArray.size_append, padded_size]
  have hb : ∀ j, j < 10 → bt (a ++ padded n) ((a ++ padded n).size - 10 + j) = digit n j := fun j hj => by
    rw [hsz, show a.size + 10 - 10 + j = a.size + j by omega, bt_append _ _ _ (by rw [padded_size]; exact hj), bt_padded n j hj]
  refine .inl ⟨⟨by rw [hsz]; omega, fun j hj => by rw [hb j hj]; exact digit_bd n j⟩, ?_⟩
  rw [val_congr 10 hb, val_digit n 10 (Nat.le_refl _) (by omega)]
  simp

theorem bytes11 (s : ByteArray) (n : Int) (w : World) (hs : s.size ≤ 9223372036854775807) :
    Calls Try.prog 11 #[.string s, .int .i64 n] w fun e w' => SomeBool e ∧ w' = w := by
  go_enter Try.func11, Try.ntmps11
  go_wp2
  any_goals (go_ret; exact ⟨SomeBool.mk _, rfl⟩)

set_option maxHeartbeats 400000 in
theorem readsBack (s : ByteArray) (n : Int) (w : World) (hs : s.size ≤ 9223372036854775807) :
    Calls Try.prog 4 #[.string s, .int .i64 n] w fun e w' => e = .returned (.bool true) ∧ Below w.heap.size w w' := by
  go_enter Try.func4, Try.ntmps4
  go_wp2_with fail
  refine (bytes11 s n w hs).mono ?_
  rintro e w' ⟨⟨r, rfl⟩, hw⟩
  obtain rfl : w = w' := hw.symm
  cases r with
  | false =>
    go_wp2
    go_ret
    exact ⟨rfl, Below.refl _ _⟩
  | true =>
    by_cases hS : (1048576 : Int) < (s.size : Int)
    · go_wp2_with fail
      go_ret
      exact ⟨rfl, Below.refl _ _⟩
    · by_cases h0 : n < 0
      · go_wp2_with fail
        go_ret
        exact ⟨rfl, Below.refl _ _⟩
      · by_cases h9 : 9999999999 < n
        · go_wp2_with fail
          go_ret
          exact ⟨rfl, Below.refl _ _⟩
        · obtain ⟨m, rfl⟩ := Int.eq_ofNat_of_zero_le (show 0 ≤ n by omega)
          go_wp2_with fail
          refine (pad12 m w (by omega)).mono ?_
          rintro e w1 ⟨rfl, q1⟩
          have hsz := padded_size m
          have hadd := fun w => run_string_add_sum (P := Try.prog) w s (padded m) (by rw [hsz]; omega)
          clear hsz
          go_wp2_with fail
          have hsz2 : (s ++ padded m).size ≤ 2000000 := by rw [ByteArray.size_append, padded_size]; omega
          refine (suffix9 (s ++ padded m) w1 hsz2).mono ?_
          rintro e w2 ⟨⟨r, rfl, hr⟩, q⟩
          have q2 : Below w.heap.size w w2 := q1.trans (q.mono q1.size)
          obtain rfl : r = (m : Int) := hr.eq (suf_padded s m (by omega))
          clear hr
          have hself : ((m : Int) == (m : Int)) = true := by simp
          go_wp2
          go_ret
          exact ⟨rfl, q2⟩
end Go.Proofs.Qxb6600367a

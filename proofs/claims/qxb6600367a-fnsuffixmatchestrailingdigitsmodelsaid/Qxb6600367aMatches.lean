import Derived.Test.Qxb6600367aSufWalk
namespace Go.Proofs.Qxb6600367a
open Go.RowKit
set_option linter.unusedVariables false
set_option linter.unusedSimpArgs false

/-- Read from the right: the sum of the first k digits, each times its power of ten. -/
def mval (g : Nat → Nat) : Nat → Nat
  | 0 => 0
  | k + 1 => mval g k + (g k - 48) * 10 ^ k

theorem mval_lt (g : Nat → Nat) : ∀ k, (∀ j, j < k → g j ≤ 57) → mval g k < 10 ^ k
  | 0, _ => by simp [mval]
  | k + 1, h => by
    have h1 := mval_lt g k (fun j hj => h j (by omega))
    have h2 : g k - 48 ≤ 9 := by have := h k (by omega); omega
    have h3 : (g k - 48) * 10 ^ k ≤ 9 * 10 ^ k := Nat.mul_le_mul_right _ h2
    simp only [mval, Nat.pow_succ]
    omega

theorem mval_congr {f g : Nat → Nat} : ∀ k, (∀ j, j < k → f j = g j) → mval f k = mval g k
  | 0, _ => rfl
  | k + 1, h => by simp only [mval]; rw [mval_congr k (fun j hj => h j (by omega)), h k (by omega)]

theorem mval_val (f : Nat → Nat) : mval (fun j => f (9 - j)) 10 = val f 10 := by
  simp only [mval, val, Nat.reduceSub]
  omega

theorem isDigit22 (b : Nat) (w : World) (hb : b < 256) :
    Calls Try.prog 22 #[.int .u8 (b : Int)] w fun e w' => e = .returned (.bool (decide (48 ≤ b) && decide (b ≤ 57))) ∧ w' = w := by
  by_cases h1 : (48 : Int) ≤ (b : Int)
  · have d1 : decide ((48 : Int) ≤ (b : Int)) = true := by simpa using h1
    by_cases h2 : (b : Int) ≤ 57
    · go_enter Try.func22, Try.ntmps22
      go_wp2
      go_ret
      refine ⟨?_, rfl⟩
      simp
      omega
    · go_enter Try.func22, Try.ntmps22
      go_wp2
      go_ret
      refine ⟨?_, rfl⟩
      simp
      omega
  · have d1 : decide ((48 : Int) ≤ (b : Int)) = false := by simpa using h1
    go_enter Try.func22, Try.ntmps22
    go_wp2
    go_ret
    refine ⟨?_, rfl⟩
    simp
    omega

set_option maxHeartbeats 400000 in
theorem model10 (s : ByteArray) (w : World) (hs : s.size ≤ 2000000) :
    Calls Try.prog 10 #[.string s] w fun e w' => (∃ r : Int, e = .returned (.int .i64 r) ∧ Suf s r) ∧ w' = w := by
  go_enter Try.func10, Try.ntmps10
  go_wp2
  go_loop [4] (fun v => ∃ k : Nat, k ≤ 10 ∧ k ≤ s.size ∧ v = .int .i64 k ∧ Hid (∀ j, j < k → 48 ≤ bt s (s.size - 1 - j) ∧ bt s (s.size - 1 - j) ≤ 57)) (fun v => 10 - (intOf v).toNat)
  case atStart => exact ⟨0, by omega, by omega, rfl, fun j h => absurd h (Nat.not_lt_zero _)⟩
  case round =>
    obtain ⟨k, hk, hks, rfl, HD⟩ := hrel
    by_cases hk10 : k < 10
    · by_cases hkl : k < s.size
      · have i1 : s.size - 1 - k < s.size := by omega
        have j1 : (k : Int) < 10 := by omega
        have j2 : (k : Int) < (s.size : Int) := by omega
        have hbt := bt_at i1
        have hb := bt_lt s (s.size - 1 - k)
        rw [hbt] at hb
        go_wp2_with fail
        refine (isDigit22 (s[s.size - 1 - k].toNat) w hb).mono ?_
        rintro e w' ⟨rfl, hw⟩
        obtain rfl : w = w' := hw.symm
        by_cases hd : 48 ≤ s[s.size - 1 - k].toNat ∧ s[s.size - 1 - k].toNat ≤ 57
        · have hdd : (decide (48 ≤ s[s.size - 1 - k].toNat) && decide (s[s.size - 1 - k].toNat ≤ 57)) = true := by simp [hd]
          rw [hdd]
          have HDD := hide hd
          have HBT := hide hbt
          clear hd hdd hbt
          go_wp2
          go_round
          case rel =>
            refine ⟨k + 1, by omega, by omega, by go_num, fun j hj => ?_⟩
            by_cases e : j = k
            · subst e; rw [HBT.out]; exact HDD.out
            · exact HD.out j (by omega)
          case measure => simp [intOf]; omega
        · have hdd : (decide (48 ≤ s[s.size - 1 - k].toNat) && decide (s[s.size - 1 - k].toNat ≤ 57)) = false := by
            rw [Bool.eq_false_iff]
            intro h
            simp at h
            exact hd h
          rw [hdd]
          have HDD := hide hd
          have HBT := hide hbt
          clear hd hdd hbt
          go_wp2
          go_ret
          refine ⟨⟨-1, rfl, .inr ⟨fun g => HDD.out ?_, rfl⟩⟩, rfl⟩
          have := g.2 (9 - k) (by omega)
          have g1 := g.1
          rw [show s.size - 10 + (9 - k) = s.size - 1 - k by omega, HBT.out] at this
          exact this
      · have j1 : (k : Int) < 10 := by omega
        have j2 : decide ((k : Int) < (s.size : Int)) = false := by simp; omega
        go_wp2
        go_ret
        exact ⟨⟨-1, rfl, .inr ⟨fun g => by have := g.1; omega, rfl⟩⟩, rfl⟩
    · obtain rfl : k = 10 := by omega
      go_wp2
      go_loop [5, 6, 7] (fun v p i => ∃ k P : Nat, k ≤ 10 ∧ i = .int .i64 k ∧ v = .int .i64 (mval (fun j => bt s (s.size - 1 - j)) k : Nat) ∧ p = .int .i64 (P : Nat) ∧ P ≤ 10000000000 ∧ Hid (P = 10 ^ k)) (fun _ _ i => 10 - (intOf i).toNat)
      case atStart => exact ⟨0, 1, by omega, rfl, rfl, rfl, by omega, rfl⟩
      case round =>
        obtain ⟨k, P, hk2, rfl, rfl, rfl, hP, HP⟩ := hrel
        have hv := mval_lt (fun j => bt s (s.size - 1 - j)) k (fun j hj => (HD.out j (by omega)).2)
        by_cases hlt : k < 10
        · have hP9 : P ≤ 1000000000 := by
            rw [HP.out]
            have := Nat.pow_le_pow_right (n := 10) (by omega) (show k ≤ 9 by omega)
            omega
          have hv2 : (mval (fun j => bt s (s.size - 1 - j)) k : Int) ≤ 1000000000 := by rw [← HP.out] at hv; omega
          clear hv
          have i1 : s.size - 1 - k < s.size := by omega
          have HBT := hide (bt_at i1)
          obtain ⟨d1, d2⟩ := HD.out k hlt
          rw [HBT.out] at d1 d2
          have d1' : (48 : Int) ≤ (s[s.size - 1 - k].toNat : Int) := by omega
          have d2' : (s[s.size - 1 - k].toNat : Int) ≤ 57 := by omega
          have hm0 : 0 ≤ ((s[s.size - 1 - k].toNat : Int) - 48) * (P : Int) := Int.mul_nonneg (by omega) (by omega)
          have hm1 : ((s[s.size - 1 - k].toNat : Int) - 48) * (P : Int) ≤ 9000000000 := by
            have := Int.mul_le_mul_of_nonneg_right (show (s[s.size - 1 - k].toNat : Int) - 48 ≤ 9 by omega) (show (0 : Int) ≤ (P : Int) by omega)
            omega
          go_wp2
          go_round
          case rel =>
            refine ⟨k + 1, P * 10, by omega, by go_num, val_int ?_, val_int (by omega), by omega, ?_⟩
            · simp only [mval]
              rw [HBT.out, ← HP.out, Int.natCast_add, Int.natCast_mul, Int.ofNat_sub d1]
              rfl
            · show P * 10 = 10 ^ (k + 1)
              rw [HP.out, Nat.pow_succ]
          case measure => simp [intOf]; omega
        · obtain rfl : k = 10 := by omega
          clear hv
          go_wp2
          go_ret
          refine ⟨⟨_, rfl, .inl ⟨⟨hks, fun j hj => ?_⟩, ?_⟩⟩, rfl⟩
          · have := HD.out (9 - j) (by omega)
            rw [show s.size - 10 + j = s.size - 1 - (9 - j) by omega]
            exact this
          · have h := mval_congr (f := fun j => bt s (s.size - 1 - j)) (g := fun j => (fun i => bt s (s.size - 10 + i)) (9 - j)) 10 (fun j hj => by
              dsimp only
              rw [show s.size - 10 + (9 - j) = s.size - 1 - j by omega])
            rw [h, mval_val (fun i => bt s (s.size - 10 + i))]

theorem bytes8 (s : ByteArray) (w : World) (hs : s.size ≤ 9223372036854775807) :
    Calls Try.prog 8 #[.string s] w fun e w' => SomeBool e ∧ w' = w := by
  go_enter Try.func8, Try.ntmps8
  go_wp2
  any_goals (go_ret; exact ⟨SomeBool.mk _, rfl⟩)

set_option maxHeartbeats 400000 in
theorem matchesModel (s : ByteArray) (w : World) (hs : s.size ≤ 9223372036854775807) :
    Calls Try.prog 3 #[.string s] w fun e w' => e = .returned (.bool true) ∧ Below w.heap.size w w' := by
  go_enter Try.func3, Try.ntmps3
  go_wp2_with fail
  refine (bytes8 s w hs).mono ?_
  rintro e w' ⟨⟨r, rfl⟩, hw⟩
  obtain rfl : w = w' := hw.symm
  cases r with
  | false =>
    go_wp2
    go_ret
    exact ⟨rfl, Below.refl _ _⟩
  | true =>
    by_cases hS : (1048576 : Int) < (s.size : Int)
    · go_wp2_with fail
      go_ret
      exact ⟨rfl, Below.refl _ _⟩
    · go_wp2_with fail
      refine (suffix9 s w (by omega)).mono ?_
      rintro e w1 ⟨⟨r, rfl, hr⟩, q1⟩
      go_wp2_with fail
      refine (model10 s w1 (by omega)).mono ?_
      rintro e w2 ⟨⟨r', rfl, hr'⟩, hw⟩
      obtain rfl : w1 = w2 := hw.symm
      obtain rfl : r = r' := hr.eq hr'
      clear hr hr'
      have hself : (r == r) = true := by simp
      go_wp2
      go_ret
      exact ⟨rfl, q1⟩
end Go.Proofs.Qxb6600367a

import Derived.Test.Qxb6600367aMem
namespace Go.Proofs.Qxb6600367a
open Go.RowKit
set_option linter.unusedVariables false
set_option linter.unusedSimpArgs false

/-- The byte at place i. -/
def bt (s : ByteArray) (i : Nat) : Nat := if h : i < s.size then (s[i]'h).toNat else 0

theorem bt_at {s : ByteArray} {i : Nat} (h : i < s.size) : bt s i = s[i].toNat := by simp [bt, h]
theorem bt_lt (s : ByteArray) (i : Nat) : bt s i < 256 := by
  unfold bt
  split
  · exact UInt8.toNat_lt _
  · omega

/-- The number that k digits spell. -/
def val (f : Nat → Nat) : Nat → Nat
  | 0 => 0
  | k + 1 => val f k * 10 + (f k - 48)

theorem val_lt (f : Nat → Nat) : ∀ k, (∀ j, j < k → f j ≤ 57) → val f k < 10 ^ k
  | 0, _ => by simp [val]
  | k + 1, h => by
    have h1 := val_lt f k (fun j hj => h j (by omega))
    have h2 := h k (by omega)
    simp only [val, Nat.pow_succ]
    omega

theorem val_congr {f g : Nat → Nat} : ∀ k, (∀ j, j < k → f j = g j) → val f k = val g k
  | 0, _ => rfl
  | k + 1, h => by simp only [val]; rw [val_congr k (fun j hj => h j (by omega)), h k (by omega)]

/-- The last ten bytes are digits. -/
def AllD (s : ByteArray) : Prop := 10 ≤ s.size ∧ ∀ j, j < 10 → 48 ≤ bt s (s.size - 10 + j) ∧ bt s (s.size - 10 + j) ≤ 57

/-- What 'suffix' answers. -/
def Suf (s : ByteArray) (r : Int) : Prop := (AllD s ∧ r = (val (fun j => bt s (s.size - 10 + j)) 10 : Nat)) ∨ (¬ AllD s ∧ r = -1)

theorem Suf.eq {s : ByteArray} {r r' : Int} (h : Suf s r) (h' : Suf s r') : r = r' := by
  rcases h with ⟨a, rfl⟩ | ⟨a, rfl⟩ <;> rcases h' with ⟨b, rfl⟩ | ⟨b, rfl⟩
  · rfl
  · exact absurd a b
  · exact absurd b a
  · rfl

set_option maxHeartbeats 400000 in
/-- 'LastIndexByteString' at a slash. -/
theorem lastIndex26 (s : ByteArray) (w : World) (hs : s.size ≤ 2000000) :
    Calls Try.prog 26 #[.string s, .int .u8 47] w fun e w' => (∃ t : Nat, t ≤ s.size ∧ e = .returned (.int .i64 ((t : Int) - 1)) ∧ (0 < t → bt s (t - 1) = 47)) ∧ w' = w := by
  go_enter Try.func26, Try.ntmps26
  go_wp2
  go_loop [5] (fun v => ∃ k : Nat, k ≤ s.size ∧ v = .int .i64 ((k : Int) - 1)) (fun v => (intOf v + 1).toNat)
  case atStart => exact ⟨s.size, Nat.le_refl _, rfl⟩
  case round =>
    obtain ⟨k, hk, rfl⟩ := hrel
    by_cases hz : k = 0
    · subst hz
      go_wp2
      go_ret
      exact ⟨⟨0, Nat.zero_le _, rfl, fun h => absurd h (Nat.lt_irrefl _)⟩, rfl⟩
    · have h1 : (0 : Int) ≤ (k : Int) - 1 := by omega
      have hkl : k - 1 < s.size := by omega
      go_wp2
      · have hq : ((s[k - 1].toNat : Int) == 47) = true := by assumption
        go_ret
        exact ⟨⟨k, hk, rfl, fun _ => by rw [bt_at hkl]; have := beq_iff_eq.1 hq; omega⟩, rfl⟩
      · go_round
        case rel => exact ⟨k - 1, by omega, val_int (by omega)⟩
        case measure => simp [intOf]; omega

/-- 'strings.LastIndexByte' at a slash. -/
theorem lastIndex25 (s : ByteArray) (w : World) (hs : s.size ≤ 2000000) :
    Calls Try.prog 25 #[.string s, .int .u8 47] w fun e w' => (∃ t : Nat, t ≤ s.size ∧ e = .returned (.int .i64 ((t : Int) - 1)) ∧ (0 < t → bt s (t - 1) = 47)) ∧ w' = w := by
  go_enter Try.func25, Try.ntmps25
  go_wp2_with fail
  refine (lastIndex26 s w hs).mono ?_
  rintro e w' ⟨⟨t, ht, rfl, h47⟩, hw⟩
  obtain rfl : w = w' := hw.symm
  have H := hide h47
  clear h47
  go_wp2
  go_ret
  exact ⟨⟨t, ht, rfl, H.out⟩, rfl⟩
end Go.Proofs.Qxb6600367a

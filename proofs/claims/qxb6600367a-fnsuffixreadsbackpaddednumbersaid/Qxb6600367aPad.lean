import Derived.Test.Qxb6600367aSufWalk
import Derived.Deep.OwnRows
namespace Go.Proofs.Qxb6600367a
open Go.RowKit Go.ChangeShapes Go.WideShapes
set_option linter.unusedVariables false
set_option linter.unusedSimpArgs false

/-- The digit at place j of n written in ten digits. -/
def digit (n j : Nat) : Nat := 48 + n / 10 ^ (9 - j) % 10

theorem digit_bd (n j : Nat) : 48 ≤ digit n j ∧ digit n j ≤ 57 := by unfold digit; omega

theorem val_digit (n : Nat) : ∀ k, k ≤ 10 → n < 10 ^ 10 → val (digit n) k = n / 10 ^ (10 - k)
  | 0, _, h => by simp only [val]; rw [Nat.div_eq_of_lt (by simpa using h)]
  | k + 1, hk, h => by
    have ih := val_digit n k (by omega) h
    simp only [val, ih, digit]
    have e : 10 - k = (9 - k) + 1 := by omega
    rw [e, Nat.pow_succ, ← Nat.div_div_eq_div_mul, show 10 - (k + 1) = 9 - k by omega]
    omega

/-- Ten digits. -/
def padded (n : Nat) : ByteArray := ⟨((List.range 10).map (fun j => UInt8.ofNat (digit n j))).toArray⟩

theorem padded_size (n : Nat) : (padded n).size = 10 := by simp [padded, ByteArray.size]

theorem bt_padded (n j : Nat) (hj : j < 10) : bt (padded n) j = digit n j := by
  have h := digit_bd n j
  rw [bt_at (by rw [padded_size]; exact hj)]
  have : (padded n)[j]'(by rw [padded_size]; exact hj) = UInt8.ofNat (digit n j) := by
    show ((padded n).data)[j]'_ = _
    simp [padded]
  rw [this]
  simp
  omega

theorem zeros10 (w : World) : (w.alloc (.cells #[.int .u8 0, .int .u8 0, .int .u8 0, .int .u8 0, .int .u8 0, .int .u8 0, .int .u8 0, .int .u8 0, .int .u8 0, .int .u8 0] 38)).rowIs w.heap.size 38 10 (fun _ => .int .u8 0) :=
  World.rowIs_alloc w _ 38 _ (fun i hi => by
    have h10 : i < 10 := hi
    show (Array.replicate 10 (Value.int .u8 0))[i]? = _
    simp [h10])

theorem pad_step {n k m : Nat} {f : Nat → Value} (hlt : k < 10) (hm : m = n / 10 ^ k) (h : ∀ j, j < 10 → 10 - k ≤ j → f j = .int .u8 (digit n j : Nat)) :
    Hid (∀ j, j < 10 → 10 - (k + 1) ≤ j → (fun j => if j = 9 - k then Value.int .u8 (48 + (m : Int) % 10) else f j) j = .int .u8 (digit n j : Nat)) := by
  intro j h1 h2
  dsimp only
  by_cases e : j = 9 - k
  · rw [if_pos e]
    refine val_int ?_
    unfold digit
    rw [show 9 - j = k by omega, ← hm]
    omega
  · rw [if_neg e]
    exact h j h1 (by omega)

set_option maxHeartbeats 400000 in
theorem pad12 (n : Nat) (w : World) (hn : n ≤ 9999999999) :
    Calls Try.prog 12 #[.int .i64 (n : Int)] w fun e w' => e = .returned (.string (padded n)) ∧ Below w.heap.size w w' := by
  go_enter Try.func12, Try.ntmps12
  go_wp2
  go_loopw [0, 4] (fun z v wr => ∃ (k m : Nat) (f : Nat → Value), k ≤ 10 ∧ v = .int .i64 (9 - (k : Int)) ∧ z = .int .i64 (m : Nat) ∧ m ≤ 9999999999 ∧ Hid (m = n / 10 ^ k) ∧ wr.rowIs w.heap.size 38 10 f ∧ Hid (∀ j, j < 10 → 10 - k ≤ j → f j = .int .u8 (digit n j : Nat)) ∧ Below w.heap.size w wr) (fun _ v _ => (intOf v + 1).toNat)
  case atStart => exact ⟨0, n, fun _ => .int .u8 0, by omega, rfl, rfl, hn, by simp [Hid], zeros10 w, fun j h1 h2 => absurd h1 (by omega), (Below.refl _ _).alloc (Nat.le_refl _) _⟩
  case round =>
    obtain ⟨k, m, f, hk, rfl, rfl, hm, HM, hrow, HF, hbel⟩ := hrel
    by_cases hlt : k < 10
    · have y0 := hrow.cell (i := 9 - k) (by omega)
      have z0 := hrow.frozen (9 - k)
      have HR := hide hrow
      clear hrow
      go_wp2
      go_roundw
      case rel =>
        refine ⟨k + 1, m / 10, _, by omega, val_int (by omega), val_int (by omega), by omega, ?_, HR.out.set (9 - k) _, pad_step hlt HM.out HF.out, hbel.setCell (Nat.le_refl _) _⟩
        show m / 10 = n / 10 ^ (k + 1)
        rw [HM.out, Nat.pow_succ, Nat.div_div_eq_div_mul]
      case measure => simp [intOf]; omega
    · obtain rfl : k = 10 := by omega
      have hcv : (convert 34 9 (.slice (some ⟨w.heap.size, 0, none⟩) 10 10)).run Try.prog wr = .ok (.string (padded n)) wr := by
        refine run_convert_bytes_back (P := Try.prog) wr 34 9 5 ⟨w.heap.size, 0, none⟩ 10 ((List.range 10).map (fun j => UInt8.ofNat (digit n j))) Try.underlying34 Try.underlying5 Try.underlying9 ?_
        intro j hj
        have hj' : j < 10 := by simpa using hj
        rw [add_plain, Nat.zero_add, hrow.cell hj', HF.out j hj' (by omega)]
        have := digit_bd n j
        simp
        omega
      clear hrow
      go_wp2
      go_ret
      exact ⟨rfl, hbel⟩
end Go.Proofs.Qxb6600367a

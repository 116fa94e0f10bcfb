import Derived.Test.Qxb6600367aMem
import Derived.Deep.OwnRows
import Derived.WalkSpells
import Derived.BigRegion
namespace Go.Proofs.Qxb6600367a
open Go.RowKit
set_option linter.unusedVariables false
set_option linter.unusedSimpArgs false

theorem info41 : (Try.prog.info? 41).map (fun i => (i.zero, i.size, i.bytes)) = some (some (.agg #[.int .i32 0, .string ByteArray.empty, .string ByteArray.empty]), 3, 40) := by kernel_rfl

theorem make41 (n : Nat) (hn : n ≤ 1000000) (w : World) : (Instr.makeSlice 31 (.int .i64 (n : Int)) (.int .i64 (n : Int))).run Try.prog w = .ok (.slice (some ⟨w.heap.size, 0, none⟩) n n) (w.alloc (.cells (madeCells #[.int .i32 0, .string ByteArray.empty, .string ByteArray.empty] (n * 3)) 41)) := by
  obtain ⟨i0, hi, hz0, hz1, hz2⟩ := info_parts info41
  have hr := run_make (P := Try.prog) w 31 41 i0 _ Try.underlying31 hi hz0 .i64 .i64 n n (by omega) (Int.le_refl _) (by rw [hz2]; omega) (by omega)
  rw [hz1] at hr
  simpa [Value.cells] using hr

/-- The first k entries have been laid into the cells f. -/
def Laid (f : Nat → Value) (xs : List Ent) (k : Nat) : Prop := ∀ i (h : i < xs.length), i < k → f (i * 3) = .int .i32 xs[i].p ∧ f (i * 3 + 1) = .string xs[i].s ∧ f (i * 3 + 2) = .string xs[i].d

theorem laid_step {f : Nat → Value} {xs : List Ent} {k : Nat} (hk : k < xs.length) (h : Laid f xs k) :
    Laid (fun j => if j = k * 3 + 2 then .string xs[k].d else (if j = k * 3 + 1 then .string xs[k].s else (if j = k * 3 then .int .i32 xs[k].p else f j))) xs (k + 1) := by
  intro i hi hik
  by_cases e : i = k
  · subst e
    refine ⟨?_, ?_, ?_⟩
    · dsimp only; rw [if_neg (by omega), if_neg (by omega), if_pos rfl]
    · dsimp only; rw [if_neg (by omega), if_pos rfl]
    · dsimp only; rw [if_pos rfl]
  · obtain ⟨l0, l1, l2⟩ := h i hi (by omega)
    refine ⟨?_, ?_, ?_⟩
    · dsimp only; rw [if_neg (by omega), if_neg (by omega), if_neg (by omega)]; exact l0
    · dsimp only; rw [if_neg (by omega), if_neg (by omega), if_neg (by omega)]; exact l1
    · dsimp only; rw [if_neg (by omega), if_neg (by omega), if_neg (by omega)]; exact l2

set_option maxHeartbeats 400000 in
theorem toAcl_some (a : Addr) (c0 : Nat) (xs : List Ent) (w : World) (h0 : EntRow w (some a) xs) (hl : xs.length ≤ 1000000) :
    Calls Try.prog 17 #[.slice (some a) xs.length c0] w fun e w' => ∃ a' c', e = .returned (.slice (some a') xs.length c') ∧ EntRow w' (some a') xs ∧ Below w.heap.size w w' := by
  have hmk := make41 xs.length hl
  have hnil : ∀ w, (binOp .eql 27 (.slice (some a) xs.length c0) (.slice none 0 0)).run Try.prog w = .ok (.bool false) w := fun w => by
    rw [Lib.run_eql_slice_nil w 27 40 (some a) xs.length c0 0 0 Try.underlying27]; rfl
  go_enter Try.func17, Try.ntmps17
  go_wp2
  go_loopw [12] (fun v wr => ∃ (k : Nat) (f : Nat → Value), k ≤ xs.length ∧ v = .int .i64 k ∧ wr.rowIs w.heap.size 41 (xs.length * 3) f ∧ Laid f xs k ∧ Below w.heap.size w wr) (fun v _ => xs.length - (intOf v).toNat)
  case atStart =>
    refine ⟨0, fun j => ((madeCells #[.int .i32 0, .string ByteArray.empty, .string ByteArray.empty] (xs.length * 3))[j]?).getD undef, Nat.zero_le _, rfl, ?_, fun i _ h => absurd h (Nat.not_lt_zero _), (Below.refl _ _).alloc (Nat.le_refl _) _⟩
    have := World.rowIs_alloc w (madeCells #[.int .i32 0, .string ByteArray.empty, .string ByteArray.empty] (xs.length * 3)) 41 (fun j => ((madeCells #[.int .i32 0, .string ByteArray.empty, .string ByteArray.empty] (xs.length * 3))[j]?).getD undef) (fun i hi => by simp [hi])
    rw [size_madeCells] at this
    exact this
  case round =>
    obtain ⟨k, f, hk, rfl, hrow, hlaid, hbel⟩ := hrel
    have HL : Hid (Laid f xs k) := hlaid
    clear hlaid
    by_cases hlt : k < xs.length
    · obtain ⟨b0, o0, ha, hb0, hc0⟩ := h0.at (by omega)
      cases ha
      obtain ⟨x0, x1, x2⟩ := hc0 k hlt
      clear hc0
      rw [← hbel.cell (p := ⟨b0, o0 + k * 3, none⟩) hb0] at x0
      rw [← hbel.cell (p := ⟨b0, o0 + k * 3 + 1, none⟩) hb0] at x1
      rw [← hbel.cell (p := ⟨b0, o0 + k * 3 + 2, none⟩) hb0] at x2
      have y0 := hrow.cell (i := k * 3) (by omega)
      have y1 := hrow.cell (i := k * 3 + 1) (by omega)
      have y2 := hrow.cell (i := k * 3 + 2) (by omega)
      have z0 := hrow.frozen (k * 3)
      have z1 := hrow.frozen (k * 3 + 1)
      have z2 := hrow.frozen (k * 3 + 2)
      have hi0 : (k : Int) < (xs.length : Int) := by omega
      have HR : Hid (wr.rowIs w.heap.size 41 (xs.length * 3) f) := hrow
      clear hrow
      go_wp2
      go_region
      all_goals go_wp2
      all_goals go_roundw
      case rel => exact ⟨k + 1, _, by omega, by go_num, (((HR.out.set (k * 3) _).set (k * 3 + 1) _).set (k * 3 + 2) _).drew, laid_step hlt HL.out, (((hbel.setCell (Nat.le_refl _) _).setCell (Nat.le_refl _) _).setCell (Nat.le_refl _) _).drew⟩
      case measure => simp [intOf]; omega
    · go_wp2
      go_ret
      refine ⟨_, _, rfl, ?_, hbel⟩
      by_cases hz : xs = []
      · exact .inl hz
      · exact .inr ⟨w.heap.size, 0, rfl, hrow.lt, fun i hi => by
          obtain ⟨l0, l1, l2⟩ := HL.out i hi (by omega)
          rw [← l0, ← l1, ← l2, Nat.zero_add]
          exact ⟨hrow.cell (by omega), hrow.cell (by omega), hrow.cell (by omega)⟩⟩
/-- 'zzB1ToACL': a copy of the entries in new memory. -/
theorem toAcl_any (a0 : Option Addr) (c0 : Nat) (xs : List Ent) (w : World) (h0 : EntRow w a0 xs) (hl : xs.length ≤ 1000000) :
    Calls Try.prog 17 #[.slice a0 xs.length c0] w fun e w' => ∃ a' c', e = .returned (.slice a' xs.length c') ∧ EntRow w' a' xs ∧ Below w.heap.size w w' := by
  cases a0 with
  | some a =>
    refine (toAcl_some a c0 xs w h0 hl).mono ?_
    rintro e w' ⟨a', c', rfl, h, hb⟩
    exact ⟨some a', c', rfl, h, hb⟩
  | none =>
    have hx : xs = [] := by
      rcases h0 with h | ⟨b, off, e, _⟩
      · exact h
      · cases e
    subst hx
    have hnil : ∀ w, (binOp .eql 27 (.slice none 0 c0) (.slice none 0 0)).run Try.prog w = .ok (.bool true) w := fun w => by
      rw [Lib.run_eql_slice_nil w 27 40 none 0 c0 0 0 Try.underlying27]; rfl
    simp only [List.length_nil]
    go_enter Try.func17, Try.ntmps17
    go_wp2
    go_ret
    exact ⟨none, 0, rfl, .inl rfl, Below.refl _ _⟩
end Go.Proofs.Qxb6600367a

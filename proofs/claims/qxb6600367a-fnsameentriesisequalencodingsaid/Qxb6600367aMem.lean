import Derived.Test.Qxb6600367aProg
import Derived.WalkKit
import Derived.ProofKit
import Derived.Handy
import Derived.Deep.QuietTactic
import Derived.BigQuiet
namespace Go.Proofs.Qxb6600367a
open Go.RowKit
set_option linter.unusedVariables false
set_option linter.unusedSimpArgs false

theorem ret_int {k : IntKind} {a b : Int} (h : a = b) : Ending.returned (.int k a) = .returned (.int k b) := by rw [h]
theorem val_int {k : IntKind} {a b : Int} (h : a = b) : Value.int k a = .int k b := by rw [h]
/-- The call returned some bool. -/
def SomeBool (e : Ending) : Prop := ∃ r : Bool, e = .returned (.bool r)
theorem SomeBool.mk (r : Bool) : SomeBool (.returned (.bool r)) := ⟨r, rfl⟩
theorem hide {p : Prop} (h : p) : Hid p := h

/-- One entry: perms, scheme, id. -/
structure Ent where
  p : Int
  s : ByteArray
  d : ByteArray

/-- The entries lie at 'ao', three cells each (nothing is said of the address of none). -/
def EntRow (w : World) (ao : Option Addr) (xs : List Ent) : Prop :=
  xs = [] ∨ ∃ b off, ao = some ⟨b, off, none⟩ ∧ b < w.heap.size ∧ ∀ i (h : i < xs.length),
    w.cell? ⟨b, off + i * 3, none⟩ = some (.int .i32 xs[i].p) ∧ w.cell? ⟨b, off + i * 3 + 1, none⟩ = some (.string xs[i].s) ∧ w.cell? ⟨b, off + i * 3 + 2, none⟩ = some (.string xs[i].d)

theorem EntRow.mono {w w' : World} {ao : Option Addr} {xs : List Ent} (h : EntRow w ao xs) (hb : Below w.heap.size w w') : EntRow w' ao xs := by
  rcases h with h | ⟨b, off, e, hlt, hc⟩
  · exact .inl h
  · refine .inr ⟨b, off, e, Nat.lt_of_lt_of_le hlt hb.size, fun i hi => ?_⟩
    rw [hb.cell (p := ⟨b, off + i * 3, none⟩) hlt, hb.cell (p := ⟨b, off + i * 3 + 1, none⟩) hlt, hb.cell (p := ⟨b, off + i * 3 + 2, none⟩) hlt]
    exact hc i hi

theorem EntRow.at {w : World} {ao : Option Addr} {xs : List Ent} (h : EntRow w ao xs) (hp : 0 < xs.length) : ∃ b off, ao = some ⟨b, off, none⟩ ∧ b < w.heap.size ∧ ∀ i (h : i < xs.length),
    w.cell? ⟨b, off + i * 3, none⟩ = some (.int .i32 xs[i].p) ∧ w.cell? ⟨b, off + i * 3 + 1, none⟩ = some (.string xs[i].s) ∧ w.cell? ⟨b, off + i * 3 + 2, none⟩ = some (.string xs[i].d) := by
  rcases h with rfl | h
  · simp at hp
  · exact h

theorem under41 : Try.prog.underlying 41 = some (.struct (Try.prog.fieldsOf 41)) := by kernel_rfl
theorem stood41 : Try.prog.stoodInHeld 41 = false := by kernel_rfl
theorem guard41 : Try.prog.eqGuardType Try.prog.depth 41 = false := by kernel_rfl
theorem fields41 : (Try.prog.fieldsOf 41).toList = [⟨"Perms", 21, 0, false, "", "", 0⟩, ⟨"Scheme", 9, 1, false, "", "", 8⟩, ⟨"ID", 9, 2, false, "", "", 24⟩] := by kernel_rfl

/-- 'x != y' on two entries. -/
theorem neq41 (w : World) (p p' : Int) (s s' d d' : ByteArray) : (binOp .neq 41 (.agg #[.int .i32 p, .string s, .string d]) (.agg #[.int .i32 p', .string s', .string d'])).run Try.prog w = .ok (.bool (!((p == p') && (s.toList == s'.toList) && (d.toList == d'.toList)))) w := by
  rw [run_neq_struct, run_equalIn_agg w 9999 41 _ _ under41 stood41, fields41]
  simp [Op.eqFields, go_sem, Try.underlying9, Try.underlying21]
  by_cases h0 : p = p' <;> by_cases h1 : s.toList = s'.toList <;> by_cases h2 : d.toList = d'.toList <;> simp [h0, h1, h2]

theorem bytes_ext {a b : ByteArray} (h : a.toList = b.toList) : a = b := by
  rw [ByteArray.toList_eq, ByteArray.toList_eq] at h
  obtain ⟨⟨x⟩⟩ := a
  obtain ⟨⟨y⟩⟩ := b
  simp at h
  simp [h]

theorem neq_same (w : World) (x y : Ent) (h : x = y) : (binOp .neq 41 (.agg #[.int .i32 x.p, .string x.s, .string x.d]) (.agg #[.int .i32 y.p, .string y.s, .string y.d])).run Try.prog w = .ok (.bool false) w := by
  rw [neq41, h]; simp

theorem neq_diff (w : World) (x y : Ent) (h : ¬ x = y) : (binOp .neq 41 (.agg #[.int .i32 x.p, .string x.s, .string x.d]) (.agg #[.int .i32 y.p, .string y.s, .string y.d])).run Try.prog w = .ok (.bool true) w := by
  rw [neq41]
  have : ((x.p == y.p) && (x.s.toList == y.s.toList) && (x.d.toList == y.d.toList)) = false := by
    rw [Bool.eq_false_iff]
    intro hh
    simp only [Bool.and_eq_true, beq_iff_eq] at hh
    obtain ⟨⟨h0, h1⟩, h2⟩ := hh
    apply h
    obtain ⟨p, s, d⟩ := x
    obtain ⟨p', s', d'⟩ := y
    simp only at h0 h1 h2
    rw [h0, bytes_ext h1, bytes_ext h2]
  rw [this]; rfl

theorem take_step {α : Type} {xs ys : List α} {k : Nat} (h0 : k < xs.length) (h1 : k < ys.length) (ht : xs.take k = ys.take k) (he : xs[k] = ys[k]) : xs.take (k + 1) = ys.take (k + 1) := by
  rw [List.take_succ_eq_append_getElem h0, List.take_succ_eq_append_getElem h1, ht, he]

theorem below_drewN (B : Nat) (w : World) (n : Nat) : Below B w (w.drewN n) := ⟨rfl, rfl, rfl, Nat.le_refl _, fun _ _ => rfl⟩

end Go.Proofs.Qxb6600367a

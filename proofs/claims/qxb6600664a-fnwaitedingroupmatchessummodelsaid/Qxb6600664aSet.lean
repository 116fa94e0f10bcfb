import Derived.Test.Qxb6600664aMem
namespace Go.Proofs.Qxb6600664a
open Go.RowKit
set_option linter.unusedVariables false
set_option linter.unusedSimpArgs false

/-- Is s among the names? -/
def isIn (l : List ByteArray) (s : ByteArray) : Bool := l.any fun x => decide (x = s)

theorem isIn_iff {l : List ByteArray} {s : ByteArray} : isIn l s = true ↔ s ∈ l := by
  unfold isIn
  rw [List.any_eq_true]
  constructor
  · rintro ⟨x, hx, e⟩
    rw [← of_decide_eq_true e]
    exact hx
  · intro h
    exact ⟨s, h, decide_eq_true rfl⟩

theorem isIn_append (a b : List ByteArray) (s : ByteArray) : isIn (a ++ b) s = (isIn a s || isIn b s) := by simp [isIn]

/-- A set of names, as 'map[string]bool' holds it. -/
def setF (l : List ByteArray) : ByteArray → Option Value := fun s => if isIn l s then some (.bool true) else none

theorem setF_get (l : List ByteArray) (s : ByteArray) : ((setF l s).getD (.bool false)) = .bool (isIn l s) := by
  unfold setF
  cases isIn l s <;> rfl

theorem setF_put (l : List ByteArray) (s t : ByteArray) : put (setF l) s (.bool true) t = setF (l ++ [s]) t := by
  unfold put setF
  rw [isIn_append]
  by_cases h : t = s
  · subst h
    simp [isIn]
  · have : isIn [s] t = false := by
      rw [Bool.eq_false_iff]
      intro hh
      rw [isIn_iff] at hh
      simp at hh
      exact h hh
    simp [h, this]

theorem zero4 (w : World) : (zeroValue 4).run Try.prog w = .ok (.bool false) w := by kernel_rfl

/-- 'm[s]' on a set. -/
theorem set_look {w : World} {b n : Nat} {l : List ByteArray} (h : MapIs w b n (setF l)) {s : ByteArray} (hs : s.size ≤ maxLen) :
    (Instr.lookup 37 (.map (some b)) (.string s) false).run Try.prog w = .ok (.bool (isIn l s)) w := by
  rw [h.look Try.underlying37 (zero4 w) hs, setF_get]

set_option maxHeartbeats 400000 in
/-- 'set': the names as a set. -/
theorem set39 (a0 : Option Addr) (c0 : Nat) (xs : List ByteArray) (w : World) (h0 : StrRow w a0 xs) (hl : xs.length ≤ 1000000) :
    Calls Try.prog 39 #[.slice a0 xs.length c0] w fun e w' => ∃ b n, e = .returned (.map (some b)) ∧ w.heap.size ≤ b ∧ n ≤ xs.length ∧ MapIs w' b n (setF xs) ∧ Below w.heap.size w w' := by
  have hmk := makeMap_hint 37 4 Try.underlying37 xs.length
  go_enter Try.func39, Try.ntmps39
  go_wp2
  go_loopw [11] (fun v wr => ∃ k : Nat, k ≤ xs.length ∧ v = .int .i64 k ∧ MapIs wr w.heap.size k (setF (xs.take k)) ∧ Below w.heap.size w wr) (fun v _ => xs.length - (intOf v).toNat)
  case atStart => exact ⟨0, Nat.zero_le _, rfl, (MapIs.made w).congr (fun s => rfl), (Below.refl _ _).alloc (Nat.le_refl _) _⟩
  case round =>
    obtain ⟨k, hk, rfl, hmap, hbel⟩ := hrel
    by_cases hlt : k < xs.length
    · obtain ⟨b0, o0, rfl, hb0, hc0⟩ := h0.at (by omega)
      have x0 := (hbel.cell (p := ⟨b0, o0 + k, none⟩) hb0).trans (hc0 k hlt)
      clear hc0
      have hi0 : (k : Int) < (xs.length : Int) := by omega
      have hsz := h0.size hlt
      go_wp2_with (at_mapUpdate; refine wpList_store rfl _ _ _ 37 rfl 4 Try.underlying37 w.heap.size k _ rfl hmap (by unfold maxLen; omega) xs[k] (.bool true) rfl rfl hsz ?_)
      intro w1 hmap1 hg1
      have hbel1 := hbel.grown hg1 hbel.size (fun j hj => by cases hj; exact Nat.le_refl _)
      have hmap2 : MapIs w1 w.heap.size (k + 1) (setF (xs.take (k + 1))) := hmap1.congr (fun s => by rw [setF_put, List.take_succ_eq_append_getElem hlt])
      clear hmap hmap1 hg1 hbel x0
      go_wp2
      go_roundw
      case rel => exact ⟨k + 1, by omega, by go_num, hmap2, hbel1⟩
      case measure => simp [intOf]; omega
    · go_wp2
      go_ret
      refine ⟨_, k, rfl, Nat.le_refl _, hk, ?_, hbel⟩
      rw [List.take_of_length_le (by omega)] at hmap
      exact hmap
end Go.Proofs.Qxb6600664a

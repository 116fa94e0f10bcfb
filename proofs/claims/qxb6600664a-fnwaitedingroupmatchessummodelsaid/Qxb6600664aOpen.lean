import Derived.Test.Qxb6600664aMem
import Derived.Deep.Strs
import Derived.OpenShut
import Derived.ShutString
import Derived.ChangeOld
namespace Go.Proofs.Qxb6600664a
open Go.ChangeShapes Go.WideShapes Go.ChangeAt Go.RowKit
set_option linter.unusedVariables false
set_option linter.unusedSimpArgs false

theorem cells9 : Try.prog.cellsOf 9 = 1 := by kernel_rfl

theorem cell_lt {w : World} {a : Addr} {v : Value} (h : w.cell? a = some v) : a.block < w.heap.size := by
  unfold World.cell? at h
  cases hb : w.heap[a.block]? with
  | none => simp [hb] at h
  | some o => exact (Array.getElem?_eq_some_iff.1 hb).1

/-- A slice of strings that was read (out of an argument, or out of a field's cell). -/
theorem open_strsl {H : Type} {enc : TypeId × Value → H} {W : World} {fuel : Nat} {v : Value} {x : DataW H × List MemPlace} (hf : DataW.trod enc Try.prog W 0 (fun _ => true) true fuel 22 [v] = some x) :
    ∃ xs : List ByteArray, xs.length ≤ maxLen ∧ StrSl W v xs := by
  rcases Deep.open_strs Try.underlying22 Try.underlying9 cells9 hf with ⟨hcs, _⟩ | ⟨ad, l, c, m, Sx, hcs, _, hl, hm, hmm, _, hx⟩
  · simp at hcs
    subst hcs
    exact ⟨[], by simp [maxLen], StrSl.nil W⟩
  · simp at hcs
    subst hcs
    simp only [if_true] at hmm
    subst hmm
    refine ⟨(List.range l).map Sx, by simp; omega, some ad, m, by simp, ⟨(fun e => by cases e), by simpa using hl⟩, ?_, ?_⟩
    · intro x hx'
      simp only [List.mem_map, List.mem_range] at hx'
      obtain ⟨i, hi, rfl⟩ := hx'
      exact (hx i (by omega)).2
    · by_cases hz : l = 0
      · exact .inl (by simp [hz])
      · obtain ⟨b, off, spot⟩ := ad
        have hspot : spot = none := by simpa [Addr.add] using World.cell?_spot (hx 0 (by omega)).1
        subst hspot
        refine .inr ⟨b, off, rfl, ?_, fun i hi => ?_⟩
        · have := cell_lt (hx 0 (by omega)).1
          simpa [Addr.add] using this
        · have hi' : i < l := by simpa using hi
          simp only [List.getElem_map, List.getElem_range]
          rw [← add_plain]
          exact (hx i (by omega)).1

theorem open_strs_arg {H : Type} {enc : TypeId × Value → H} {W : World} {v : Value} {d : DataW H} {p : List MemPlace} (ht : ∃ a len cap, v = .slice a len cap) (h : DataW.Trod enc Try.prog W 0 (fun _ => true) true 22 v d p) :
    ∃ xs : List ByteArray, xs.length ≤ maxLen ∧ StrSl W v xs := by
  obtain ⟨a, len, cap, rfl⟩ := ht
  obtain ⟨fuel, hf⟩ := h
  exact open_strsl (by simpa [Value.cells] using hf)
end Go.Proofs.Qxb6600664a

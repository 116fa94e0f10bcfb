import Derived.Test.Qxb6600367aMem
import Derived.Deep.Strs
import Derived.OpenShut
import Derived.ShutString
import Derived.ChangeOld
namespace Go.Proofs.Qxb6600367a
open Go.ChangeShapes Go.WideShapes Go.ChangeAt Go.RowKit
set_option linter.unusedVariables false
set_option linter.unusedSimpArgs false

theorem struct40 : Try.prog.underlying 40 = some (.struct #[⟨"Perms", 21, 0, false, "", "", 0⟩, ⟨"Scheme", 9, 1, false, "", "", 8⟩, ⟨"ID", 9, 2, false, "", "", 24⟩]) := by kernel_rfl
theorem cells40 : Try.prog.cellsOf 40 = 3 := by kernel_rfl
theorem cells21 : Try.prog.cellsOf 21 = 1 := by kernel_rfl
theorem cells9 : Try.prog.cellsOf 9 = 1 := by kernel_rfl

theorem cell_lt {w : World} {a : Addr} {v : Value} (h : w.cell? a = some v) : a.block < w.heap.size := by
  unfold World.cell? at h
  cases hb : w.heap[a.block]? with
  | none => simp [hb] at h
  | some o => exact (Array.getElem?_eq_some_iff.1 hb).1

/-- A slice of entries that came in, opened. -/
theorem open_ents {H : Type} {enc : TypeId × Value → H} {W : World} {a : Option Addr} {len cap : Nat} {d : DataW H} {p : List MemPlace} (h : DataW.Trod enc Try.prog W 0 (fun _ => true) true 27 (.slice a len cap) d p) :
    ∃ xs : List Ent, xs.length = len ∧ len ≤ maxLen ∧ EntRow W a xs ∧ ∀ x ∈ xs, x.s.size ≤ maxLen ∧ x.d.size ≤ maxLen ∧ (-2147483648 ≤ x.p ∧ x.p ≤ 2147483647) := by
  obtain ⟨fuel, hf⟩ := h
  rcases Deep.open_slice Try.underlying27 hf with ⟨hcs, _⟩ | ⟨ad, l, c, m, n, D, Pl, hcs, _, hl, hm, hmm, _, hx⟩
  · simp [Value.cells] at hcs
    obtain ⟨rfl, rfl, rfl⟩ := hcs
    exact ⟨[], rfl, by simp [maxLen], .inl rfl, by simp⟩
  · simp [Value.cells] at hcs
    obtain ⟨rfl, rfl, rfl⟩ := hcs
    simp only [if_true] at hmm
    subst hmm
    rw [cells40] at hx
    have each : ∀ i, i < len → ∃ e : Ent, W.cell? (ad.add (i * 3)) = some (.int .i32 e.p) ∧ W.cell? (ad.add (i * 3 + 1)) = some (.string e.s) ∧ W.cell? (ad.add (i * 3 + 2)) = some (.string e.d) ∧ e.s.size ≤ maxLen ∧ e.d.size ≤ maxLen ∧ (-2147483648 ≤ e.p ∧ e.p ≤ 2147483647) := by
      intro i hi
      obtain ⟨cs, h1, h2⟩ := hx i (by omega)
      obtain ⟨_, hlen, hc⟩ := World.cells?_some h1
      obtain ⟨y0, y1, y2, n', _, _, t0, t1, t2⟩ := Deep.trod_struct3 struct40 h2
      match cs, hlen with
      | [v0, v1, v2], _ =>
        simp only [cells21, cells9] at t0 t1 t2
        obtain ⟨q, e0, _, wq⟩ := DataW.trod_int Try.underlying21 t0
        have bq := bounds_i32 wq
        obtain ⟨s, e1, _, hs⟩ := DataW.trod_string Try.underlying9 t1
        obtain ⟨r, e2, _, hr⟩ := DataW.trod_string Try.underlying9 t2
        simp at e0 e1 e2
        subst e0 e1 e2
        have g0 := hc 0 (by omega)
        have g1 := hc 1 (by omega)
        have g2 := hc 2 (by omega)
        rw [Deep.add_add] at g0 g1 g2
        exact ⟨⟨q, s, r⟩, by simpa using g0, by simpa using g1, by simpa using g2, hs, hr, bq⟩
    obtain ⟨E, hE⟩ := @Deep.choose_lt Ent ⟨⟨0, ByteArray.empty, ByteArray.empty⟩⟩ _ _ each
    refine ⟨(List.range len).map E, by simp, by omega, ?_, ?_⟩
    · by_cases hz : len = 0
      · exact .inl (by simp [hz])
      · obtain ⟨b, off, spot⟩ := ad
        have hspot : spot = none := by simpa [Addr.add] using World.cell?_spot (hE 0 (by omega)).1
        subst hspot
        refine .inr ⟨b, off, rfl, ?_, fun i hi => ?_⟩
        · have := cell_lt (hE 0 (by omega)).1
          simpa [Addr.add] using this
        · have hi' : i < len := by simpa using hi
          obtain ⟨q0, q1, q2, _, _, _⟩ := hE i hi'
          simp only [List.getElem_map, List.getElem_range]
          rw [add_plain] at q0 q1 q2
          exact ⟨q0, by rw [Nat.add_assoc]; exact q1, by rw [Nat.add_assoc]; exact q2⟩
    · intro x hx'
      simp only [List.mem_map, List.mem_range] at hx'
      obtain ⟨i, hi, rfl⟩ := hx'
      exact (hE i hi).2.2.2
end Go.Proofs.Qxb6600367a

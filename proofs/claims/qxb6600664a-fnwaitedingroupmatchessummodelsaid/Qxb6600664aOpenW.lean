import Derived.Test.Qxb6600664aOpen
import Derived.Test.Qxb6600664aEnts
import Derived.Lib.SmallJoins
namespace Go.Proofs.Qxb6600664a
open Go.ChangeShapes Go.WideShapes Go.ChangeAt Go.RowKit
set_option linter.unusedVariables false
set_option linter.unusedSimpArgs false

theorem cells29 : Try.prog.cellsOf 29 = 1 := by kernel_rfl
theorem cells22 : Try.prog.cellsOf 22 = 1 := by kernel_rfl
theorem cells4 : Try.prog.cellsOf 4 = 1 := by kernel_rfl
theorem cells31 : Try.prog.cellsOf 31 = 4 := by kernel_rfl
theorem cells41 : Try.prog.cellsOf 41 = 5 := by kernel_rfl

/-- Four cells that read as a record. -/
theorem open_rec4 {H : Type} {enc : TypeId × Value → H} {W : World} {fuel : Nat} {c0 c1 c2 c3 : Value} {x : DataW H × List MemPlace} (hf : DataW.trod enc Try.prog W 0 (fun _ => true) true fuel 31 [c0, c1, c2, c3] = some x) :
    ∃ r : Rc, c0 = .int .u64 (r.own : Int) ∧ c1 = .int .u64 (r.waited : Int) ∧ StrSl W c2 r.kids ∧ c3 = .bool r.out ∧ r.kids.length ≤ maxLen ∧ Small r := by
  obtain ⟨y0, y1, y2, y3, n, _, _, t0, t1, t2, t3⟩ := Joins.trod_struct4 Try.underlying31 hf
  simp only [cells29, cells22, cells4] at t0 t1 t2 t3
  obtain ⟨m0, e0, _, w0⟩ := DataW.trod_int Try.underlying29 t0
  obtain ⟨m1, e1, _, w1⟩ := DataW.trod_int Try.underlying29 t1
  obtain ⟨xs, hl, hs⟩ := open_strsl (by simpa using t2)
  obtain ⟨b, e3, _⟩ := DataW.trod_bool Try.underlying4 t3
  have b0 := bounds_u64 w0
  have b1 := bounds_u64 w1
  simp at e0 e1 e3
  subst e0 e1 e3
  refine ⟨⟨m0.toNat, m1.toNat, xs, b⟩, ?_, ?_, hs, rfl, hl, ?_, ?_⟩
  · show Value.int .u64 m0 = .int .u64 ((m0.toNat : Nat) : Int)
    rw [Int.toNat_of_nonneg b0.1]
  · show Value.int .u64 m1 = .int .u64 ((m1.toNat : Nat) : Int)
    rw [Int.toNat_of_nonneg b1.1]
  · show m0.toNat < _
    omega
  · show m1.toNat < _
    omega

set_option maxRecDepth 100000 in
theorem open_rec_arg {H : Type} {enc : TypeId × Value → H} {W : World} {r : Reach} {b0 : Nat} {v : Value} {d : DataW H} {p : List MemPlace} (hv : Value.okWide Try.prog W r b0 31 v) (h : DataW.Trod enc Try.prog W 0 (fun _ => true) true 31 v d p) :
    ∃ r : Rc, r.kids.length ≤ maxLen ∧ RecV W v r := by
  obtain ⟨cs, rfl, hsz⟩ := okWide_struct Try.underlying31 hv
  rw [cells31] at hsz
  obtain ⟨c0, c1, c2, c3, rfl⟩ := Joins.array4 hsz
  obtain ⟨fuel, hf⟩ := h
  obtain ⟨r, rfl, rfl, hs, rfl, hl, hsm⟩ := open_rec4 (by simpa [Value.cells] using hf)
  exact ⟨r, hl, _, rfl, hs, hsm⟩

theorem list5 {α : Type} {cs : List α} (h : cs.length = 5) : ∃ a b c d e, cs = [a, b, c, d, e] := by
  match cs, h with
  | [a, b, c, d, e], _ => exact ⟨a, b, c, d, e, rfl⟩

/-- A slice of entries that came in, opened. -/
theorem open_ents_arg {H : Type} {enc : TypeId × Value → H} {W : World} {v : Value} {d : DataW H} {p : List MemPlace} (ht : ∃ a len cap, v = .slice a len cap) (h : DataW.Trod enc Try.prog W 0 (fun _ => true) true 28 v d p) :
    ∃ es : List En, es.length ≤ maxLen ∧ EnSl W v es := by
  obtain ⟨a, len, cap, rfl⟩ := ht
  obtain ⟨fuel, hf⟩ := h
  rcases Deep.open_slice Try.underlying28 hf with ⟨hcs, _⟩ | ⟨ad, l, c, m, n, D, Pl, hcs, _, hl, hm, hmm, _, hx⟩
  · simp [Value.cells] at hcs
    obtain ⟨rfl, rfl, rfl⟩ := hcs
    exact ⟨[], by simp [maxLen], none, 0, rfl, by simp, .inl rfl⟩
  · simp [Value.cells] at hcs
    obtain ⟨rfl, rfl, rfl⟩ := hcs
    simp only [if_true] at hmm
    subst hmm
    rw [cells41] at hx
    have each : ∀ i, i < len → ∃ e : En, (∃ v, (W.cell? (ad.add (i * 5)) = some (.string e.name) ∧ W.cell? (ad.add (i * 5 + 1)) = some (.int .u64 (e.r.own : Int)) ∧ W.cell? (ad.add (i * 5 + 2)) = some (.int .u64 (e.r.waited : Int)) ∧ W.cell? (ad.add (i * 5 + 3)) = some v ∧ W.cell? (ad.add (i * 5 + 4)) = some (.bool e.r.out)) ∧ StrSl W v e.r.kids) ∧ FitE e := by
      intro i hi
      obtain ⟨cs, h1, h2⟩ := hx i (by omega)
      obtain ⟨_, hlen, hc⟩ := World.cells?_some h1
      obtain ⟨y0, y1, n', _, _, t0, t1⟩ := trod_struct2 Try.underlying41 h2
      obtain ⟨v0, v1, v2, v3, v4, rfl⟩ := list5 hlen
      · simp only [cells9, cells31] at t0 t1
        obtain ⟨s, e0, _, hs⟩ := DataW.trod_string Try.underlying9 t0
        obtain ⟨r, rfl, rfl, hsl, rfl, hkl, hsm⟩ := open_rec4 (by simpa using t1)
        simp at e0
        subst e0
        have g0 := hc 0 (by omega)
        have g1 := hc 1 (by omega)
        have g2 := hc 2 (by omega)
        have g3 := hc 3 (by omega)
        have g4 := hc 4 (by omega)
        rw [Deep.add_add] at g0 g1 g2 g3 g4
        exact ⟨⟨s, r⟩, ⟨v3, ⟨by simpa using g0, by simpa using g1, by simpa using g2, by simpa using g3, by simpa using g4⟩, hsl⟩, hs, hkl, hsm⟩
    obtain ⟨E, hE⟩ := @Deep.choose_lt En ⟨⟨ByteArray.empty, ⟨0, 0, [], false⟩⟩⟩ _ _ each
    refine ⟨(List.range len).map E, by simp; omega, some ad, m, by simp, ?_, ?_⟩
    · intro x hx'
      simp only [List.mem_map, List.mem_range] at hx'
      obtain ⟨i, hi, rfl⟩ := hx'
      exact (hE i hi).2
    · by_cases hz : len = 0
      · exact .inl (by simp [hz])
      · obtain ⟨b, off, spot⟩ := ad
        obtain ⟨⟨_, ⟨z0, _⟩, _⟩, _⟩ := hE 0 (by omega)
        have hspot : spot = none := by simpa [Addr.add] using World.cell?_spot z0
        subst hspot
        refine .inr ⟨b, off, rfl, ?_, fun i hi => ?_⟩
        · have := cell_lt z0
          simpa [Addr.add] using this
        · have hi' : i < len := by simpa using hi
          obtain ⟨⟨v, ⟨q0, q1, q2, q3, q4⟩, hs⟩, _⟩ := hE i hi'
          simp only [List.getElem_map, List.getElem_range]
          rw [add_plain] at q0 q1 q2 q3 q4
          refine ⟨v, ⟨q0, ?_, ?_, ?_, ?_⟩, hs⟩
          · rw [Nat.add_assoc]; exact q1
          · rw [Nat.add_assoc, Nat.add_assoc]; exact q2
          · rw [Nat.add_assoc, Nat.add_assoc]; exact q3
          · rw [Nat.add_assoc, Nat.add_assoc]; exact q4
end Go.Proofs.Qxb6600664a

import Derived.Test.Qxb6600664aRec
import Derived.Deep.RegionHeld3
namespace Go.Proofs.Qxb6600664a
open Go.RowKit
set_option linter.unusedVariables false
set_option linter.unusedSimpArgs false

/-- Two new blocks of four cells, behind a call that has written nothing old. -/
theorem box_two {w w1 : World} {x0 x1 x2 x3 y0 y1 y2 y3 : Value} {t t' : TypeId}
    (q : Below ((w.alloc (.cells #[x0, x1, x2, x3] t)).alloc (.cells #[y0, y1, y2, y3] t')).drew.heap.size ((w.alloc (.cells #[x0, x1, x2, x3] t)).alloc (.cells #[y0, y1, y2, y3] t')).drew w1) :
    (w1.cell? ⟨w.heap.size, 0, none⟩ = some x0 ∧ w1.cell? ⟨w.heap.size, 1, none⟩ = some x1 ∧ w1.cell? ⟨w.heap.size, 2, none⟩ = some x2 ∧ w1.cell? ⟨w.heap.size, 3, none⟩ = some x3) ∧
    (w1.cell? ⟨w.heap.size + 1, 0, none⟩ = some y0 ∧ w1.cell? ⟨w.heap.size + 1, 1, none⟩ = some y1 ∧ w1.cell? ⟨w.heap.size + 1, 2, none⟩ = some y2 ∧ w1.cell? ⟨w.heap.size + 1, 3, none⟩ = some y3) ∧
    (w1.frozen? ⟨w.heap.size + 1, 0, none⟩ = false ∧ w1.frozen? ⟨w.heap.size + 1, 1, none⟩ = false ∧ w1.frozen? ⟨w.heap.size + 1, 2, none⟩ = false ∧ w1.frozen? ⟨w.heap.size + 1, 3, none⟩ = false) := by
  refine ⟨⟨?_, ?_, ?_, ?_⟩, ⟨?_, ?_, ?_, ?_⟩, ⟨?_, ?_, ?_, ?_⟩⟩
  all_goals first
    | (rw [q.cell (by simp; try omega)]; simp; done)
    | (rw [q.frozen (by simp; try omega)]; simp; done)

set_option maxHeartbeats 1000000 in
/-- 'cpuCloneRec': the same record, its names in new memory. -/
theorem cloneRec20 (u : Value) (r : Rc) (w : World) (h : RecV w u r) (hl : r.kids.length ≤ 1000000) :
    Calls Try.prog 20 #[u] w fun e w' => ∃ u' v', e = .returned u' ∧ u' = .agg #[.int .u64 (r.own : Int), .int .u64 (r.waited : Int), v', .bool r.out] ∧ StrSl w' v' r.kids ∧ Small r ∧ Below w.heap.size w w' ∧ ∀ g, v'.ownBlock = some g → w.heap.size ≤ g := by
  obtain ⟨v, rfl, hs, hsm⟩ := h
  obtain ⟨a, c, rfl, hn, hr⟩ := hs
  have hs : StrSl w (.slice a r.kids.length c) r.kids := ⟨a, c, rfl, hn, hr⟩
  have HSM := hide hsm
  clear hn hr hsm
  go_enter Try.func20, Try.ntmps20
  go_wp2_with fail
  go_region_held3 (fun w' => w'.cell? ⟨w.heap.size, 0, none⟩ = some (.int .u64 (r.own : Int)) ∧ w'.cell? ⟨w.heap.size, 1, none⟩ = some (.int .u64 (r.waited : Int)) ∧ w'.cell? ⟨w.heap.size, 2, none⟩ = some (.slice a r.kids.length c) ∧ w'.cell? ⟨w.heap.size, 3, none⟩ = some (.bool r.out)) (go_keep) ((go_at_call 11; refine (clone11f _ r.kids _ (hs.mono (by go_grown)) hl).mono ?_; rintro e w1 ⟨v1, rfl, hv1, q1, hfr⟩; have HSL := hide hv1; have HFR := hide hfr; clear hfr; obtain ⟨⟨k0, k1, k2, k3⟩, ⟨l0, l1, l2, l3⟩, f0, f1, f2, f3⟩ := box_two q1; obtain ⟨a1, c1, hv, hn1, hr1⟩ := hv1; rw [hv]; have HV := hide hn1; have HR := hide hr1; have HQ := hide q1; clear hn1 hr1 q1))
  go_wp2
  refine bodyPost_ret (v := .agg #[.int .u64 (r.own : Int), .int .u64 (r.waited : Int), .slice a1 r.kids.length c1, .bool r.out]) (by simp [results, Try.results20, go_sem, l0, l1, l2, l3]) rfl ?_
  have hq : Below w.heap.size w w1 := ((((Below.refl _ _).alloc (Nat.le_refl _) _).alloc (by simp) _).drew).trans (HQ.out.mono (by simp; omega))
  have hsl := HSL.out
  have hfr := HFR.out
  rw [hv] at hsl hfr
  have hne : (Value.slice a1 r.kids.length c1).ownBlock ≠ some (w.heap.size + 1) := fun e => by
    have := hfr _ e
    simp at this
    omega
  refine ⟨_, _, rfl, rfl, (((hsl.setCell (by exact hne) _).setCell (by exact hne) _).setCell (by exact hne) _).setCell (by exact hne) _, HSM.out, (((hq.setCell (by simp) _).setCell (by simp) _).setCell (by simp) _).setCell (by simp) _, fun g hg => ?_⟩
  have := hfr g hg
  simp at this
  omega
end Go.Proofs.Qxb6600664a

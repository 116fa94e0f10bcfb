import Derived.Test.Qxb6600664aWaited
namespace Go.Proofs.Qxb6600664a
open Go.RowKit
set_option linter.unusedVariables false
set_option linter.unusedSimpArgs false

set_option maxHeartbeats 1000000 in
/-- 'cpuIndex': the entries as a map. -/
theorem index36 (u : Value) (es : List En) (w : World) (h : EnSl w u es) (hl : es.length ≤ 1000000) :
    Calls Try.prog 36 #[u] w fun e w' => ∃ b n, e = .returned (.map (some b)) ∧ RecMap w' b n es ∧ Below w.heap.size w w' := by
  obtain ⟨a, c, rfl, hf, hr⟩ := h
  have hmk := makeMap_hint 50 31 Try.underlying50 es.length
  have HF := hide hf
  clear hf
  go_enter Try.func36, Try.ntmps36
  go_wp2
  go_loopw [4] (fun v wr => ∃ (k : Nat) (f : ByteArray → Option Value), k ≤ es.length ∧ v = .int .i64 k ∧ MapIs wr w.heap.size k f ∧ Hid (Holds w f (es.take k)) ∧ Below w.heap.size w wr) (fun v _ => es.length - (intOf v).toNat)
  case atStart => exact ⟨0, _, Nat.zero_le _, rfl, MapIs.made w, Holds.nil w, (Below.refl _ _).alloc (Nat.le_refl _) _⟩
  case round =>
    obtain ⟨k, f, hk, rfl, hmap, HH, hbel⟩ := hrel
    by_cases hlt : k < es.length
    · obtain ⟨b0, o0, rfl, hb0, hc0⟩ := hr.at (by omega)
      obtain ⟨v, hat, hv⟩ := hc0 k hlt
      obtain ⟨x0, x1, x2, x3, x4⟩ := hat.mono hbel hb0
      clear hc0 hat
      obtain ⟨f1, f2, f3⟩ := HF.out es[k] (List.getElem_mem hlt)
      have RV0 : Hid (RecV w (.agg #[.int .u64 (es[k].r.own : Int), .int .u64 (es[k].r.waited : Int), v, .bool es[k].r.out]) es[k].r) := ⟨v, rfl, hv, f3⟩
      have HN := hide f1
      clear f1 f2 f3
      obtain ⟨a1, c1, rfl, hn1, hr1⟩ := hv
      clear hn1 hr1
      have hi0 : (k : Int) < (es.length : Int) := by omega
      have hi00 : (0 : Int) ≤ (k : Int) := by omega
      have hlt0 := hmap.lt
      have HM := hide hmap
      have hm1 : MapIs wr.drew w.heap.size k f := hmap.mono ((Below.refl _ _).drew)
      obtain ⟨w2, hrun, hm2, hg2⟩ := hm1.store (t := 50) (e := 31) Try.underlying50 (by unfold maxLen; omega) HN.out (.agg #[.int .u64 (es[k].r.own : Int), .int .u64 (es[k].r.waited : Int), .slice a1 es[k].r.kids.length c1, .bool es[k].r.out])
      have HM2 := hide hm2
      have HG2 := hide hg2
      have HBL := hide hbel
      have hne1 : ¬ b0 = w.heap.size := by omega
      have hbw : b0 < wr.heap.size := by have := hbel.size; omega
      clear hmap hm1 hm2 hg2
      go_wp2
      go_region
      have H1 : Hid (Below w.heap.size w w2) := hbel.drew.grown HG2.out hbel.size (fun j hj => by cases hj; exact Nat.le_refl _)
      go_wp2
      go_roundw
      case rel => exact ⟨k + 1, _, by omega, by go_num, HM2.out, Holds.step hlt HH.out RV0.out, H1.out⟩
      case measure => simp [intOf]; omega
    · go_wp2
      go_ret
      refine ⟨_, k, rfl, ⟨f, hmap, ?_⟩, hbel⟩
      have h := HH.out
      rw [List.take_of_length_le (by omega)] at h
      exact h.mono hbel
end Go.Proofs.Qxb6600664a

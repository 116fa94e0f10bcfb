import Derived.Test.Qxb6600664aEnts
namespace Go.Proofs.Qxb6600664a
open Go.RowKit
set_option linter.unusedVariables false
set_option linter.unusedSimpArgs false

theorem StrSl.set5 {w : World} {v : Value} {xs : List ByteArray} (h : StrSl w v xs) {g : Nat} (hne : v.ownBlock ≠ some g) (o0 o1 o2 o3 o4 : Nat) (u0 u1 u2 u3 u4 : Value) :
    StrSl (((((w.setCell ⟨g, o0, none⟩ u0).setCell ⟨g, o1, none⟩ u1).setCell ⟨g, o2, none⟩ u2).setCell ⟨g, o3, none⟩ u3).setCell ⟨g, o4, none⟩ u4) v xs :=
  ((((h.setCell (p := ⟨g, o0, none⟩) hne _).setCell (p := ⟨g, o1, none⟩) hne _).setCell (p := ⟨g, o2, none⟩) hne _).setCell (p := ⟨g, o3, none⟩) hne _).setCell (p := ⟨g, o4, none⟩) hne _

set_option maxHeartbeats 1000000 in
theorem cloneEnts_some (a : Addr) (c : Nat) (es : List En) (w : World) (hf : ∀ e ∈ es, FitE e) (hr : EnRow w (some a) es) (hl : es.length ≤ 1000000) (hk : ∀ e ∈ es, e.r.kids.length ≤ 1000000) :
    Calls Try.prog 19 #[.slice (some a) es.length c] w fun e w' => ∃ u', e = .returned u' ∧ EnSl w' u' es ∧ Below w.heap.size w w' := by
  have hmk := make28 es.length hl
  have hnil : ∀ w, (binOp .eql 28 (.slice (some a) es.length c) (.slice none 0 0)).run Try.prog w = .ok (.bool false) w := fun w => by
    rw [Lib.run_eql_slice_nil w 28 41 (some a) es.length c 0 0 Try.underlying28]; rfl
  have HF := hide hf
  have HK := hide hk
  clear hf hk
  go_enter Try.func19, Try.ntmps19
  go_wp2
  go_loopw [4] (fun v wr => ∃ (k : Nat) (f : Nat → Value) (V : Nat → Value), k ≤ es.length ∧ v = .int .i64 k ∧ wr.rowIs w.heap.size 41 (es.length * 5) f ∧ Hid (LaidE f es V k) ∧ Hid (∀ i (h : i < es.length), i < k → StrSl wr (V i) es[i].r.kids ∧ (V i).ownBlock ≠ some w.heap.size) ∧ Below w.heap.size w wr) (fun v _ => es.length - (intOf v).toNat)
  case atStart => exact ⟨0, _, fun _ => undef, Nat.zero_le _, rfl, zeros_row w _ _, fun i _ h => absurd h (Nat.not_lt_zero _), fun i _ h => absurd h (Nat.not_lt_zero _), (Below.refl _ _).alloc (Nat.le_refl _) _⟩
  case round =>
    obtain ⟨k, f, V, hk, rfl, hrow, HL, HV, hbel⟩ := hrel
    by_cases hlt : k < es.length
    · obtain ⟨b0, o0, ha, hb0, hc0⟩ := hr.at (by omega)
      cases ha
      obtain ⟨v, hat, hv⟩ := hc0 k hlt
      obtain ⟨x0, x1, x2, x3, x4⟩ := hat.mono hbel hb0
      clear hc0 hat
      obtain ⟨f1, f2, f3⟩ := HF.out es[k] (List.getElem_mem hlt)
      have RV : Hid (RecV wr (.agg #[.int .u64 (es[k].r.own : Int), .int .u64 (es[k].r.waited : Int), v, .bool es[k].r.out]) es[k].r) := ⟨v, rfl, hv.mono hbel, f3⟩
      clear f1 f2 f3
      obtain ⟨a1, c1, rfl, hn1, hr1⟩ := hv
      clear hn1 hr1
      have HKK := hide (HK.out es[k] (List.getElem_mem hlt))
      have hi0 : (k : Int) < (es.length : Int) := by omega
      have hi00 : (0 : Int) ≤ (k : Int) := by omega
      have hlt0 := hrow.lt
      have HR := hide hrow
      clear hrow
      have hbw : b0 < wr.heap.size := by omega
      have hne1 : ¬ b0 = w.heap.size := by omega
      have hne2 : ¬ w.heap.size = b0 := by omega
      go_wp2
      go_region_held3 (fun w' => w'.cell? ⟨b0, o0 + k * 5, none⟩ = some (.string es[k].name) ∧ w'.cell? ⟨b0, o0 + k * 5 + 1, none⟩ = some (.int .u64 (es[k].r.own : Int)) ∧ w'.cell? ⟨b0, o0 + k * 5 + 1 + 1, none⟩ = some (.int .u64 (es[k].r.waited : Int)) ∧ w'.cell? ⟨b0, o0 + k * 5 + 1 + 2, none⟩ = some (.slice a1 es[k].r.kids.length c1) ∧ w'.cell? ⟨b0, o0 + k * 5 + 1 + 3, none⟩ = some (.bool es[k].r.out)) (go_keep) ((go_at_call 20; refine (cloneRec20 _ es[k].r _ (RV.out.mono (by go_grown)) HKK.out).mono ?_; rintro e w1 ⟨u1, v1, rfl, hu1, hv1, hsm, q1, hfr⟩; rw [hu1]; obtain ⟨y0, y1, y2, y3, y4⟩ := EnAt.mono (w := wr.drew) ⟨x0, x1, x2, x3, x4⟩ q1 hbw; have hrow1 := HR.out.drew.of_block (q1.block _ hlt0); have z0 := hrow1.frozen (k * 5); have z1 := hrow1.frozen (k * 5 + 1); have z2 := hrow1.frozen (k * 5 + 2); have z3 := hrow1.frozen (k * 5 + 3); have z4 := hrow1.frozen (k * 5 + 4); have t0 := hrow1.cell (i := k * 5) (by omega); have t1 := hrow1.cell (i := k * 5 + 1) (by omega); have t2 := hrow1.cell (i := k * 5 + 2) (by omega); have t3 := hrow1.cell (i := k * 5 + 3) (by omega); have t4 := hrow1.cell (i := k * 5 + 4) (by omega); have HR1 := hide hrow1; have HQ := hide q1; have HV1 := hide hv1; have HFR := hide hfr; clear q1 hrow1 hsm hfr; obtain ⟨a2, c2, hve, hn2, hr2⟩ := hv1; rw [hve]; have HVE := hide hve; clear hn2 hr2 hve))
      have hbel1 : Below w.heap.size w w1 := hbel.drew.trans (HQ.out.mono (by simp; omega))
      have hwr1 : Below wr.heap.size wr w1 := (Below.refl _ _).drew.trans HQ.out
      have hsl2 : StrSl w1 (.slice a2 es[k].r.kids.length c2) es[k].r.kids := by rw [← HVE.out]; exact HV1.out
      have hne2' : (Value.slice a2 es[k].r.kids.length c2).ownBlock ≠ some w.heap.size := fun e => by
        rw [← HVE.out] at e
        have := HFR.out _ e
        simp at this
        omega
      have H1 := hide hbel1
      have H2 := hide hwr1
      have H3 := hide hsl2
      have H4 := hide hne2'
      clear hbel1 hwr1 hsl2 hne2'
      go_wp2
      go_roundw
      case rel =>
        refine ⟨k + 1, layE f es k hlt (.slice a2 es[k].r.kids.length c2), fun i => if i = k then .slice a2 es[k].r.kids.length c2 else V i, by omega, by go_num, ((((HR1.out.set (k * 5) _).set (k * 5 + 1) _).set (k * 5 + 2) _).set (k * 5 + 3) _).set (k * 5 + 4) _, laidE_step hlt HL.out _, ?_, ((((H1.out.setCell (Nat.le_refl _) _).setCell (Nat.le_refl _) _).setCell (Nat.le_refl _) _).setCell (Nat.le_refl _) _).setCell (Nat.le_refl _) _⟩
        intro i hi hik
        by_cases e : i = k
        · subst e
          simp only [if_true]
          exact ⟨H3.out.set5 H4.out _ _ _ _ _ _ _ _ _ _, H4.out⟩
        · simp only [if_neg e]
          obtain ⟨g1, g2⟩ := HV.out i hi (by omega)
          exact ⟨(g1.mono H2.out).set5 g2 _ _ _ _ _ _ _ _ _ _, g2⟩
      case measure => simp [intOf]; omega
    · go_wp2
      go_ret
      refine ⟨_, rfl, ⟨_, _, rfl, HF.out, .inr ⟨w.heap.size, 0, rfl, hrow.lt, fun i hi => ⟨V i, laidE_at hrow ?_ hi, (HV.out i hi (by omega)).1⟩⟩⟩, hbel⟩
      have : k = es.length := by omega
      rw [this] at HL
      exact HL.out

/-- 'cpuCloneEntries': the same entries in new memory. -/
theorem cloneEnts19 (u : Value) (es : List En) (w : World) (h : EnSl w u es) (hl : es.length ≤ 1000000) (hk : ∀ e ∈ es, e.r.kids.length ≤ 1000000) :
    Calls Try.prog 19 #[u] w fun e w' => ∃ u', e = .returned u' ∧ EnSl w' u' es ∧ Below w.heap.size w w' := by
  obtain ⟨a, c, rfl, hf, hr⟩ := h
  cases a with
  | some a => exact cloneEnts_some a c es w hf hr hl hk
  | none =>
    have hx := hr.none_nil
    subst hx
    clear hf hr hl hk
    have hnil : ∀ w, (binOp .eql 28 (.slice none 0 c) (.slice none 0 0)).run Try.prog w = .ok (.bool true) w := fun w => by
      rw [Lib.run_eql_slice_nil w 28 41 none 0 c 0 0 Try.underlying28]; rfl
    rw [List.length_nil]
    go_enter Try.func19, Try.ntmps19
    go_wp2
    go_ret
    exact ⟨_, rfl, ⟨none, 0, rfl, by simp, .inl rfl⟩, Below.refl _ _⟩

set_option maxHeartbeats 1000000 in
/-- 'cpuToZZEntries': the same entries, the children's slices shared. -/
theorem toZZEnts34 (u : Value) (es : List En) (w : World) (h : EnSl w u es) (hl : es.length ≤ 1000000) :
    Calls Try.prog 34 #[u] w fun e w' => ∃ u', e = .returned u' ∧ EnSl w' u' es ∧ Below w.heap.size w w' := by
  obtain ⟨a, c, rfl, hf, hr⟩ := h
  have hmk := make46 es.length hl
  have HF := hide hf
  clear hf
  go_enter Try.func34, Try.ntmps34
  go_wp2
  go_loopw [4] (fun v wr => ∃ (k : Nat) (f : Nat → Value) (V : Nat → Value), k ≤ es.length ∧ v = .int .i64 k ∧ wr.rowIs w.heap.size 65 (es.length * 5) f ∧ Hid (LaidE f es V k) ∧ Hid (∀ i (h : i < es.length), i < k → StrSl w (V i) es[i].r.kids) ∧ Below w.heap.size w wr) (fun v _ => es.length - (intOf v).toNat)
  case atStart => exact ⟨0, _, fun _ => undef, Nat.zero_le _, rfl, zeros_row w _ _, fun i _ h => absurd h (Nat.not_lt_zero _), fun i _ h => absurd h (Nat.not_lt_zero _), (Below.refl _ _).alloc (Nat.le_refl _) _⟩
  case round =>
    obtain ⟨k, f, V, hk, rfl, hrow, HL, HV, hbel⟩ := hrel
    by_cases hlt : k < es.length
    · obtain ⟨b0, o0, rfl, hb0, hc0⟩ := hr.at (by omega)
      obtain ⟨v, hat, hv⟩ := hc0 k hlt
      obtain ⟨x0, x1, x2, x3, x4⟩ := hat.mono hbel hb0
      clear hc0 hat
      obtain ⟨f1, f2, f3⟩ := HF.out es[k] (List.getElem_mem hlt)
      have RV : Hid (RecV wr (.agg #[.int .u64 (es[k].r.own : Int), .int .u64 (es[k].r.waited : Int), v, .bool es[k].r.out]) es[k].r) := ⟨v, rfl, hv.mono hbel, f3⟩
      have HSV := hide hv
      clear f1 f2 f3
      obtain ⟨a1, c1, rfl, hn1, hr1⟩ := hv
      clear hn1 hr1
      have hi0 : (k : Int) < (es.length : Int) := by omega
      have hi00 : (0 : Int) ≤ (k : Int) := by omega
      have hlt0 := hrow.lt
      have HR := hide hrow
      clear hrow
      have hbw : b0 < wr.heap.size := by omega
      have hne1 : ¬ b0 = w.heap.size := by omega
      have hne2 : ¬ w.heap.size = b0 := by omega
      go_wp2
      go_region_held3 (fun w' => w'.cell? ⟨b0, o0 + k * 5, none⟩ = some (.string es[k].name) ∧ w'.cell? ⟨b0, o0 + k * 5 + 1, none⟩ = some (.int .u64 (es[k].r.own : Int)) ∧ w'.cell? ⟨b0, o0 + k * 5 + 1 + 1, none⟩ = some (.int .u64 (es[k].r.waited : Int)) ∧ w'.cell? ⟨b0, o0 + k * 5 + 1 + 2, none⟩ = some (.slice a1 es[k].r.kids.length c1) ∧ w'.cell? ⟨b0, o0 + k * 5 + 1 + 3, none⟩ = some (.bool es[k].r.out)) (go_keep) ((go_at_call 35; refine (toZZ35 _ es[k].r _ (RV.out.mono (by go_grown))).mono ?_; rintro e w1 ⟨rfl, q1⟩; obtain ⟨y0, y1, y2, y3, y4⟩ := EnAt.mono (w := wr.drew) ⟨x0, x1, x2, x3, x4⟩ q1 hbw; have hrow1 := HR.out.drew.of_block (q1.block _ hlt0); have z0 := hrow1.frozen (k * 5); have z1 := hrow1.frozen (k * 5 + 1); have z2 := hrow1.frozen (k * 5 + 2); have z3 := hrow1.frozen (k * 5 + 3); have z4 := hrow1.frozen (k * 5 + 4); have t0 := hrow1.cell (i := k * 5) (by omega); have t1 := hrow1.cell (i := k * 5 + 1) (by omega); have t2 := hrow1.cell (i := k * 5 + 2) (by omega); have t3 := hrow1.cell (i := k * 5 + 3) (by omega); have t4 := hrow1.cell (i := k * 5 + 4) (by omega); have HR1 := hide hrow1; have HQ := hide q1; clear q1 hrow1))
      have H1 : Hid (Below w.heap.size w w1) := hbel.drew.trans (HQ.out.mono (by simp; omega))
      go_wp2
      go_roundw
      case rel =>
        refine ⟨k + 1, layE f es k hlt (.slice a1 es[k].r.kids.length c1), fun i => if i = k then .slice a1 es[k].r.kids.length c1 else V i, by omega, by go_num, ((((HR1.out.set (k * 5) _).set (k * 5 + 1) _).set (k * 5 + 2) _).set (k * 5 + 3) _).set (k * 5 + 4) _, laidE_step hlt HL.out _, ?_, ((((H1.out.setCell (Nat.le_refl _) _).setCell (Nat.le_refl _) _).setCell (Nat.le_refl _) _).setCell (Nat.le_refl _) _).setCell (Nat.le_refl _) _⟩
        intro i hi hik
        by_cases e : i = k
        · subst e
          simp only [if_true]
          exact HSV.out
        · simp only [if_neg e]
          exact HV.out i hi (by omega)
      case measure => simp [intOf]; omega
    · go_wp2
      go_ret
      refine ⟨_, rfl, ⟨_, _, rfl, HF.out, .inr ⟨w.heap.size, 0, rfl, hrow.lt, fun i hi => ⟨V i, laidE_at hrow ?_ hi, (HV.out i hi (by omega)).mono hbel⟩⟩⟩, hbel⟩
      have : k = es.length := by omega
      rw [this] at HL
      exact HL.out
end Go.Proofs.Qxb6600664a

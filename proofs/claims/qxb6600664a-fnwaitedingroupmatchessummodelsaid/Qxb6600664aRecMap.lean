import Derived.Test.Qxb6600664aEnts2
namespace Go.Proofs.Qxb6600664a
open Go.RowKit
set_option linter.unusedVariables false
set_option linter.unusedSimpArgs false

/-- A name's record, the later entry standing. -/
def lookupL (es : List En) (s : ByteArray) : Option Rc := es.foldl (fun acc e => if e.name = s then some e.r else acc) none

theorem lookupL_step {es : List En} {k : Nat} (h : k < es.length) (s : ByteArray) : lookupL (es.take (k + 1)) s = if es[k].name = s then some es[k].r else lookupL (es.take k) s := by
  unfold lookupL
  rw [List.take_succ_eq_append_getElem h, List.foldl_append]
  rfl

/-- f holds the records of the entries, as values that are good in w. -/
def Holds (w : World) (f : ByteArray → Option Value) (es : List En) : Prop := ∀ s, (lookupL es s = none → f s = none) ∧ ∀ r, lookupL es s = some r → ∃ u, f s = some u ∧ RecV w u r

theorem Holds.mono {w w' : World} {f : ByteArray → Option Value} {es : List En} (h : Holds w f es) (hb : Below w.heap.size w w') : Holds w' f es := fun s => by
  obtain ⟨h1, h2⟩ := h s
  refine ⟨h1, fun r hr => ?_⟩
  obtain ⟨u, hu, hv⟩ := h2 r hr
  exact ⟨u, hu, hv.mono hb⟩

theorem Holds.nil (w : World) : Holds w (fun _ => none) [] := fun s => ⟨fun _ => rfl, fun r hr => by simp [lookupL] at hr⟩

theorem Holds.step {w : World} {f : ByteArray → Option Value} {es : List En} {k : Nat} (hk : k < es.length) (h : Holds w f (es.take k)) {u : Value} (hu : RecV w u es[k].r) : Holds w (put f es[k].name u) (es.take (k + 1)) := by
  intro s
  rw [lookupL_step hk]
  by_cases e : es[k].name = s
  · subst e
    simp only [if_true]
    refine ⟨(fun hh => by cases hh), fun r hr => ⟨u, by simp [put], ?_⟩⟩
    cases hr
    exact hu
  · simp only [if_neg e]
    have : put f es[k].name u s = f s := by unfold put; rw [if_neg (fun hh => e hh.symm)]
    rw [this]
    exact h s

/-- Block b is a map that holds the entries' records. -/
def RecMap (w : World) (b n : Nat) (es : List En) : Prop := ∃ f, MapIs w b n f ∧ Holds w f es

theorem RecMap.mono {w w' : World} {b n : Nat} {es : List En} (h : RecMap w b n es) (hb : Below w.heap.size w w') : RecMap w' b n es := by
  obtain ⟨f, h1, h2⟩ := h
  exact ⟨f, h1.mono hb, h2.mono hb⟩

set_option maxHeartbeats 1000000 in
/-- 'zzRecords': the entries as a map. -/
theorem zzRecords40 (u : Value) (es : List En) (w : World) (h : EnSl w u es) (hl : es.length ≤ 1000000) :
    Calls Try.prog 40 #[u] w fun e w' => ∃ b n, e = .returned (.map (some b)) ∧ RecMap w' b n es ∧ Below w.heap.size w w' := by
  obtain ⟨a, c, rfl, hf, hr⟩ := h
  have hmk := makeMap_hint 56 62 Try.underlying56 es.length
  have HF := hide hf
  clear hf
  go_enter Try.func40, Try.ntmps40
  go_wp2
  go_loopw [4] (fun v wr => ∃ (k : Nat) (f : ByteArray → Option Value), k ≤ es.length ∧ v = .int .i64 k ∧ MapIs wr w.heap.size k f ∧ Hid (Holds w f (es.take k)) ∧ Below w.heap.size w wr) (fun v _ => es.length - (intOf v).toNat)
  case atStart => exact ⟨0, _, Nat.zero_le _, rfl, MapIs.made w, Holds.nil w, (Below.refl _ _).alloc (Nat.le_refl _) _⟩
  case round =>
    obtain ⟨k, f, hk, rfl, hmap, HH, hbel⟩ := hrel
    by_cases hlt : k < es.length
    · obtain ⟨b0, o0, rfl, hb0, hc0⟩ := hr.at (by omega)
      obtain ⟨v, hat, hv⟩ := hc0 k hlt
      obtain ⟨x0, x1, x2, x3, x4⟩ := hat.mono hbel hb0
      clear hc0 hat
      obtain ⟨f1, f2, f3⟩ := HF.out es[k] (List.getElem_mem hlt)
      have RV0 : Hid (RecV w (.agg #[.int .u64 (es[k].r.own : Int), .int .u64 (es[k].r.waited : Int), v, .bool es[k].r.out]) es[k].r) := ⟨v, rfl, hv, f3⟩
      have HN := hide f1
      clear f1 f2 f3
      obtain ⟨a1, c1, rfl, hn1, hr1⟩ := hv
      clear hn1 hr1
      have hi0 : (k : Int) < (es.length : Int) := by omega
      have hi00 : (0 : Int) ≤ (k : Int) := by omega
      have hlt0 := hmap.lt
      have HM := hide hmap
      clear hmap
      have hbw : b0 < wr.heap.size := by omega
      have hne1 : ¬ b0 = w.heap.size := by omega
      have HBL := hide hbel
      go_wp2
      go_region_held3 (fun w' => w'.cell? ⟨b0, o0 + k * 5, none⟩ = some (.string es[k].name) ∧ w'.cell? ⟨b0, o0 + k * 5 + 1, none⟩ = some (.int .u64 (es[k].r.own : Int)) ∧ w'.cell? ⟨b0, o0 + k * 5 + 1 + 1, none⟩ = some (.int .u64 (es[k].r.waited : Int)) ∧ w'.cell? ⟨b0, o0 + k * 5 + 1 + 2, none⟩ = some (.slice a1 es[k].r.kids.length c1) ∧ w'.cell? ⟨b0, o0 + k * 5 + 1 + 3, none⟩ = some (.bool es[k].r.out)) (go_keep) ((go_at_call 42; refine (zzRecord42 _ es[k].r _ ((RV0.out.mono HBL.out).mono (by go_grown))).mono ?_; rintro e w1 ⟨rfl, q1⟩; obtain ⟨y0, y1, y2, y3, y4⟩ := EnAt.mono (w := wr.drew) ⟨x0, x1, x2, x3, x4⟩ q1 hbw; have hm1 : MapIs w1 w.heap.size k f := HM.out.mono ((Below.refl _ _).drew.trans q1); obtain ⟨w2, hrun, hm2, hg2⟩ := hm1.store (t := 56) (e := 62) Try.underlying56 (by unfold maxLen; omega) HN.out (.agg #[.int .u64 (es[k].r.own : Int), .int .u64 (es[k].r.waited : Int), .slice a1 es[k].r.kids.length c1, .bool es[k].r.out]); have hgb : w2.heap[b0]? = w1.heap[b0]? := hg2.block b0 (Nat.lt_of_lt_of_le hbw q1.size) (fun hh => hne1 (by simpa using hh)); have g0 := (World.cell?_of_block (a := ⟨b0, o0 + k * 5, none⟩) hgb).trans y0; have g1 := (World.cell?_of_block (a := ⟨b0, o0 + k * 5 + 1, none⟩) hgb).trans y1; have g2 := (World.cell?_of_block (a := ⟨b0, o0 + k * 5 + 1 + 1, none⟩) hgb).trans y2; have g3 := (World.cell?_of_block (a := ⟨b0, o0 + k * 5 + 1 + 2, none⟩) hgb).trans y3; have g4 := (World.cell?_of_block (a := ⟨b0, o0 + k * 5 + 1 + 3, none⟩) hgb).trans y4; have HM2 := hide hm2; have HG2 := hide hg2; have HQ := hide q1; clear q1 hm1 hm2 hg2 hgb))
      have H1 : Hid (Below w.heap.size w w2) := (hbel.drew.trans (HQ.out.mono (by simp; omega))).grown HG2.out (Nat.le_trans hbel.size HQ.out.size) (fun j hj => by cases hj; exact Nat.le_refl _)
      go_wp2
      go_roundw
      case rel => exact ⟨k + 1, _, by omega, by go_num, HM2.out, Holds.step hlt HH.out RV0.out, H1.out⟩
      case measure => simp [intOf]; omega
    · go_wp2
      go_ret
      refine ⟨_, k, rfl, ⟨f, hmap, ?_⟩, hbel⟩
      have h := HH.out
      rw [List.take_of_length_le (by omega)] at h
      exact h.mono hbel
end Go.Proofs.Qxb6600664a

import Derived.Test.Qxb6600664aWaited
import Derived.Deep.RegionHeld3
namespace Go.Proofs.Qxb6600664a
open Go.RowKit
set_option linter.unusedVariables false
set_option linter.unusedSimpArgs false

theorem made_at (W : World) (n : Nat) (h : W.heap.size = n) (l : List ByteArray) : MapIs (W.alloc (.map #[] 0)) n 0 (presF (l.take 0)) := by
  rw [← h]
  exact (MapIs.made W).congr (fun s => rfl)

/-- w' is W but for new blocks; kept from the walk. -/
def Fr (W w' : World) : Prop := Below W.heap.size W w'

/-- Two blocks of four cells each, read in a later world. -/
theorem box8 {w w1 w' : World} {x0 x1 x2 x3 y0 y1 y2 y3 : Value} {t t' : TypeId}
    (q : Below (w.heap.size + 2) ((w.alloc (.cells #[x0, x1, x2, x3] t)).alloc (.cells #[y0, y1, y2, y3] t')) w1) (f : Fr w1 w') :
    w'.cell? ⟨w.heap.size, 0, none⟩ = some x0 ∧ w'.cell? ⟨w.heap.size, 1, none⟩ = some x1 ∧ w'.cell? ⟨w.heap.size, 2, none⟩ = some x2 ∧ w'.cell? ⟨w.heap.size, 3, none⟩ = some x3 ∧
    w'.cell? ⟨w.heap.size + 1, 0, none⟩ = some y0 ∧ w'.cell? ⟨w.heap.size + 1, 1, none⟩ = some y1 ∧ w'.cell? ⟨w.heap.size + 1, 2, none⟩ = some y2 ∧ w'.cell? ⟨w.heap.size + 1, 3, none⟩ = some y3 := by
  have hs := q.size
  simp at hs
  have k : ∀ b o, b < w.heap.size + 2 → w'.cell? ⟨b, o, none⟩ = ((w.alloc (.cells #[x0, x1, x2, x3] t)).alloc (.cells #[y0, y1, y2, y3] t')).cell? ⟨b, o, none⟩ := fun b o hb =>
    (f.cell (p := ⟨b, o, none⟩) (by show b < w1.heap.size; omega)).trans (q.cell (p := ⟨b, o, none⟩) hb)
  refine ⟨?_, ?_, ?_, ?_, ?_, ?_, ?_, ?_⟩
  all_goals (rw [k _ _ (by omega)]; simp)

set_option maxHeartbeats 2000000 in
set_option maxRecDepth 100000 in
theorem zzWaited33 (ur ul up vk uh vp : Value) (last p : Rc) (kids : List ByteArray) (recs held : List En) (pres : List ByteArray) (w : World) (hur : EnSl w ur recs) (huh : EnSl w uh held) (hvp : StrSl w vp pres)
    (hul : RecV w ul last) (hup : RecV w up p) (hvk : StrSl w vk kids) (hl1 : last.kids.length ≤ 4096) (hl2 : p.kids.length ≤ 4096) (hl3 : kids.length ≤ 4096) (hl4 : recs.length ≤ 4096) (hl5 : held.length ≤ 4096) (hl6 : pres.length ≤ 4096) (hN : ∀ s, (newestL held recs s).kids.length ≤ 4096) :
    Calls Try.prog 33 #[ur, ul, up, vk, uh, vp] w fun e w' => e = .returned (.int .u64 ((loopW held recs pres p.kids (p.waited - last.waited) (unionL last.kids kids) : Nat) : Int)) ∧ Below w.heap.size w w' := by
  have HUL := hide hul
  have HUP := hide hup
  obtain ⟨vl, rfl, ⟨al, cl, rfl, hnl, hrl⟩, hsml⟩ := hul
  obtain ⟨vpp, rfl, ⟨ap, cp, rfl, hnp, hrp⟩, hsmp⟩ := hup
  obtain ⟨av, cv, rfl, hnv, hrv⟩ := hvp
  have HNN := hide hN
  clear hnl hrl hsml hnp hrp hsmp hnv hN
  have hmk := makeMap_hint 54 9 Try.underlying54 pres.length
  go_enter Try.func33, Try.ntmps33
  go_wp2_with fail
  go_loopw [14] (fun v wr => ∃ k : Nat, k ≤ pres.length ∧ v = .int .i64 k ∧ MapIs wr (w.heap.size + 2) k (presF (pres.take k)) ∧ Below (w.heap.size + 2) ((w.alloc (.cells #[.int .u64 (last.own : Int), .int .u64 (last.waited : Int), .slice al last.kids.length cl, .bool last.out] 48)).alloc (.cells #[.int .u64 (p.own : Int), .int .u64 (p.waited : Int), .slice ap p.kids.length cp, .bool p.out] 48)) wr) (fun v _ => pres.length - (intOf v).toNat)
  case atStart => exact ⟨0, Nat.zero_le _, rfl, made_at _ _ (by simp) _, (Below.refl _ _).alloc (by simp) _⟩
  case round =>
    obtain ⟨k, hk, rfl, hmap, hbel⟩ := hrel
    have hbel0 : Below w.heap.size w wr := (((Below.refl _ _).alloc (Nat.le_refl _) _).alloc (by simp) _).trans (hbel.mono (by omega))
    by_cases hlt : k < pres.length
    · obtain ⟨b0, o0, rfl, hb0, hc0⟩ := hrv.at (by omega)
      have x0 := (hbel0.cell (p := ⟨b0, o0 + k, none⟩) hb0).trans (hc0 k hlt)
      clear hc0
      have hi0 : (k : Int) < (pres.length : Int) := by omega
      have hsz := hrv.size hlt
      go_wp2_with (at_mapUpdate; refine wpList_store rfl _ _ _ 54 rfl 9 Try.underlying54 (w.heap.size + 2) k _ rfl hmap (by unfold maxLen; omega) pres[k] (.string ⟨#[]⟩) rfl rfl hsz ?_)
      intro w1 hmap1 hg1
      have hbel1 := hbel.grown hg1 (by have := hbel.size; simp at this; omega) (fun j hj => by cases hj; exact Nat.le_refl _)
      have hmap2 : MapIs w1 (w.heap.size + 2) (k + 1) (presF (pres.take (k + 1))) := hmap1.congr (fun s => by rw [presF_put, List.take_succ_eq_append_getElem hlt])
      clear hmap hmap1 hg1 hbel hbel0 x0
      go_wp2
      go_roundw
      case rel => exact ⟨k + 1, by omega, by go_num, hmap2, hbel1⟩
      case measure => simp [intOf]; omega
    · obtain rfl : k = pres.length := by omega
      go_wp2_with fail
      refine (zzRecords40 ur recs wr (hur.mono hbel0) (by omega)).mono ?_
      rintro e w1 ⟨brec, nr, rfl, hR, q⟩
      have hbel1 : Below (w.heap.size + 2) ((w.alloc (.cells #[.int .u64 (last.own : Int), .int .u64 (last.waited : Int), .slice al last.kids.length cl, .bool last.out] 48)).alloc (.cells #[.int .u64 (p.own : Int), .int .u64 (p.waited : Int), .slice ap p.kids.length cp, .bool p.out] 48)) w1 := hbel.trans (q.mono (by have := hbel.size; simp at this; omega))
      have hq1 := below_up hbel0 hbel0.size q
      have hpm : MapIs w1 (w.heap.size + 2) pres.length (presF pres) := by
        have := hmap.mono q
        rw [List.take_of_length_le (Nat.le_refl _)] at this
        exact this
      have HB1 := hide hbel1
      have HQ1 := hide hq1
      have HPM := hide hpm
      have HRM := hide hR
      clear hbel hbel0 q hbel1 hq1 hpm hmap hR
      go_wp2_with fail
      obtain ⟨WH, hWH⟩ : ∃ W, W = w1.alloc (.cells #[.int .i64 0, .string ⟨#[]⟩, .map none, .map (some brec), .int .u64 0] 59) := ⟨_, rfl⟩
      rw [← hWH]
      have F0 : Fr w1 WH := by rw [hWH]; exact (Below.refl _ _).alloc (Nat.le_refl _) _
      have hh0 : Hid (WH.cell? ⟨w1.heap.size, 3, none⟩ = some (.map (some brec))) := by show World.cell? _ _ = _; rw [hWH]; simp
      have hsz0 : w1.heap.size < WH.heap.size := by rw [hWH]; simp
      clear hWH
      obtain ⟨s0, s1, s2, s3, s4, s5, s6, s7⟩ := box8 HB1.out F0
      have G0 : Fr w WH := below_up HQ1.out HQ1.out.size F0
      go_region_held3 (fun w' => w'.cell? ⟨w.heap.size, 0, none⟩ = some (.int .u64 (last.own : Int)) ∧ w'.cell? ⟨w.heap.size, 1, none⟩ = some (.int .u64 (last.waited : Int)) ∧ w'.cell? ⟨w.heap.size, 2, none⟩ = some (.slice al last.kids.length cl) ∧ w'.cell? ⟨w.heap.size, 3, none⟩ = some (.bool last.out) ∧ w'.cell? ⟨w.heap.size + 1, 0, none⟩ = some (.int .u64 (p.own : Int)) ∧ w'.cell? ⟨w.heap.size + 1, 1, none⟩ = some (.int .u64 (p.waited : Int)) ∧ w'.cell? ⟨w.heap.size + 1, 2, none⟩ = some (.slice ap p.kids.length cp) ∧ w'.cell? ⟨w.heap.size + 1, 3, none⟩ = some (.bool p.out)) (go_keep) ((first
        | (go_at_call_of 42 (Value.agg #[Value.int IntKind.u64 (last.own : Int), Value.int IntKind.u64 (last.waited : Int), Value.slice al last.kids.length cl, Value.bool last.out]); refine (zzRecord42 _ last _ (HUL.out.mono (Below.drew G0))).mono ?_; rintro e wA ⟨rfl, qA⟩; have FA : Fr WH wA := (Below.refl _ _).drew.trans qA; obtain ⟨t0, t1, t2, t3, t4, t5, t6, t7⟩ := box8 HB1.out (below_up F0 F0.size FA); clear qA)
        | (go_at_call_of 42 (Value.agg #[Value.int IntKind.u64 (p.own : Int), Value.int IntKind.u64 (p.waited : Int), Value.slice ap p.kids.length cp, Value.bool p.out]); refine (zzRecord42 _ p _ (HUP.out.mono (below_up G0 G0.size FA))).mono ?_; rintro e wB ⟨rfl, qB⟩; have FB : Fr WH wB := below_up FA FA.size qB; obtain ⟨t0, t1, t2, t3, t4, t5, t6, t7⟩ := box8 HB1.out (below_up F0 F0.size FB); clear qB)
        | (go_at_call 40; refine (zzRecords40 uh held _ (huh.mono (below_up G0 G0.size FB)) (by omega)).mono ?_; rintro e wC ⟨bheld, nh, rfl, hH, qC⟩; have FC : Fr WH wC := below_up FB FB.size qC; obtain ⟨t0, t1, t2, t3, t4, t5, t6, t7⟩ := box8 HB1.out (below_up F0 F0.size FC); have HHH := hide hH; clear qC hH)
        | (go_at_call 41; refine (waited41 w1.heap.size brec bheld (w.heap.size + 1 + 1) nr nh pres.length _ _ vk last p kids recs held pres wC ((FC.cell (p := ⟨w1.heap.size, 3, none⟩) hsz0).trans hh0.out) (Nat.lt_of_lt_of_le hsz0 FC.size) (HRM.out.mono (below_up F0 F0.size FC)) HHH.out (HPM.out.mono (below_up F0 F0.size FC)) (HUL.out.mono (below_up G0 G0.size FC)) (HUP.out.mono (below_up G0 G0.size FC)) (hvk.mono (below_up G0 G0.size FC)) hl1 hl2 hl3 HNN.out).mono ?_; rintro e wD ⟨rfl, qD⟩; have FD : Fr WH wD := below_up FC FC.size qD; obtain ⟨t0, t1, t2, t3, t4, t5, t6, t7⟩ := box8 HB1.out (below_up F0 F0.size FD); clear qD)))
      go_wp2
      go_ret
      exact ⟨rfl, below_up G0 G0.size FD⟩
end Go.Proofs.Qxb6600664a

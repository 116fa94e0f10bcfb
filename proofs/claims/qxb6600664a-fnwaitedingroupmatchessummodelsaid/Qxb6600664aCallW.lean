import Derived.Test.Qxb6600664aZZ
namespace Go.Proofs.Qxb6600664a
open Go.RowKit
set_option linter.unusedVariables false
set_option linter.unusedSimpArgs false

set_option maxHeartbeats 2000000 in
set_option maxRecDepth 100000 in
/-- 'cpuCallWaited'. -/
theorem callWaited21 (ur ul up vk uh vp : Value) (last p : Rc) (kids : List ByteArray) (recs held : List En) (pres : List ByteArray) (w : World) (hur : EnSl w ur recs) (huh : EnSl w uh held) (hvp : StrSl w vp pres)
    (hul : RecV w ul last) (hup : RecV w up p) (hvk : StrSl w vk kids) (hl1 : last.kids.length ≤ 4096) (hl2 : p.kids.length ≤ 4096) (hl3 : kids.length ≤ 4096) (hl4 : recs.length ≤ 4096) (hl5 : held.length ≤ 4096) (hl6 : pres.length ≤ 4096) (hN : ∀ s, (newestL held recs s).kids.length ≤ 4096) :
    Calls Try.prog 21 #[ur, ul, up, vk, uh, vp] w fun e w' => e = .returned (.int .u64 ((loopW held recs pres p.kids (p.waited - last.waited) (unionL last.kids kids) : Nat) : Int)) ∧ Below w.heap.size w w' := by
  have HUL := hide hul
  have HUP := hide hup
  have HNN := hide hN
  have HUR := hide hur
  have HUH := hide huh
  have HVP := hide hvp
  have HVK := hide hvk
  obtain ⟨vl, rfl, ⟨al, cl, rfl, hnl, hrl⟩, hsml⟩ := hul
  obtain ⟨vpp, rfl, ⟨ap, cp, rfl, hnp, hrp⟩, hsmp⟩ := hup
  clear hnl hrl hsml hnp hrp hsmp hN hur huh hvp hvk
  go_enter Try.func21, Try.ntmps21
  go_wp2_with fail
  obtain ⟨W0, hW0⟩ : ∃ W, W = (w.alloc (.cells #[.int .u64 (last.own : Int), .int .u64 (last.waited : Int), .slice al last.kids.length cl, .bool last.out] 31)).alloc (.cells #[.int .u64 (p.own : Int), .int .u64 (p.waited : Int), .slice ap p.kids.length cp, .bool p.out] 31) := ⟨_, rfl⟩
  rw [← hW0]
  have HB1 : Hid (Below (w.heap.size + 2) ((w.alloc (.cells #[.int .u64 (last.own : Int), .int .u64 (last.waited : Int), .slice al last.kids.length cl, .bool last.out] 31)).alloc (.cells #[.int .u64 (p.own : Int), .int .u64 (p.waited : Int), .slice ap p.kids.length cp, .bool p.out] 31)) W0) := by rw [hW0]; exact Below.refl _ _
  have G0 : Fr w W0 := by rw [hW0]; exact ((Below.refl _ _).alloc (Nat.le_refl _) _).alloc (by simp) _
  clear hW0
  obtain ⟨s0, s1, s2, s3, s4, s5, s6, s7⟩ := box8 HB1.out (Below.refl W0.heap.size W0)
  go_region_held3 (fun w' => w'.cell? ⟨w.heap.size, 0, none⟩ = some (.int .u64 (last.own : Int)) ∧ w'.cell? ⟨w.heap.size, 1, none⟩ = some (.int .u64 (last.waited : Int)) ∧ w'.cell? ⟨w.heap.size, 2, none⟩ = some (.slice al last.kids.length cl) ∧ w'.cell? ⟨w.heap.size, 3, none⟩ = some (.bool last.out) ∧ w'.cell? ⟨w.heap.size + 1, 0, none⟩ = some (.int .u64 (p.own : Int)) ∧ w'.cell? ⟨w.heap.size + 1, 1, none⟩ = some (.int .u64 (p.waited : Int)) ∧ w'.cell? ⟨w.heap.size + 1, 2, none⟩ = some (.slice ap p.kids.length cp) ∧ w'.cell? ⟨w.heap.size + 1, 3, none⟩ = some (.bool p.out)) (go_keep) ((first
    | (go_at_call_of 34 ur; refine (toZZEnts34 ur recs _ (HUR.out.mono (Below.drew G0)) (by omega)).mono ?_; rintro e wA ⟨u1, rfl, h1, qA⟩; have FA : Fr W0 wA := (Below.refl _ _).drew.trans qA; have H1 := hide h1; obtain ⟨t0, t1, t2, t3, t4, t5, t6, t7⟩ := box8 HB1.out FA; clear qA h1)
    | (go_at_call_of 35 (Value.agg #[Value.int IntKind.u64 (last.own : Int), Value.int IntKind.u64 (last.waited : Int), Value.slice al last.kids.length cl, Value.bool last.out]); refine (toZZ35 _ last _ (HUL.out.mono (below_up G0 G0.size FA))).mono ?_; rintro e wB ⟨rfl, qB⟩; have FB : Fr W0 wB := below_up FA FA.size qB; have H2 := hide (H1.out.mono qB); obtain ⟨t0, t1, t2, t3, t4, t5, t6, t7⟩ := box8 HB1.out FB; clear qB)
    | (go_at_call_of 35 (Value.agg #[Value.int IntKind.u64 (p.own : Int), Value.int IntKind.u64 (p.waited : Int), Value.slice ap p.kids.length cp, Value.bool p.out]); refine (toZZ35 _ p _ (HUP.out.mono (below_up G0 G0.size FB))).mono ?_; rintro e wC ⟨rfl, qC⟩; have FC : Fr W0 wC := below_up FB FB.size qC; have H3 := hide (H2.out.mono qC); obtain ⟨t0, t1, t2, t3, t4, t5, t6, t7⟩ := box8 HB1.out FC; clear qC)
    | (go_at_call 34; refine (toZZEnts34 uh held _ (HUH.out.mono (below_up G0 G0.size FC)) (by omega)).mono ?_; rintro e wD ⟨u2, rfl, h2, qD⟩; have FD : Fr W0 wD := below_up FC FC.size qD; have H4 := hide (H3.out.mono qD); have H5 := hide h2; obtain ⟨t0, t1, t2, t3, t4, t5, t6, t7⟩ := box8 HB1.out FD; clear qD h2)
    | (go_at_call 33; refine (zzWaited33 u1 _ _ vk u2 vp last p kids recs held pres wD H4.out H5.out (HVP.out.mono (below_up G0 G0.size FD)) (HUL.out.mono (below_up G0 G0.size FD)) (HUP.out.mono (below_up G0 G0.size FD)) (HVK.out.mono (below_up G0 G0.size FD)) hl1 hl2 hl3 hl4 hl5 hl6 HNN.out).mono ?_; rintro e wE ⟨rfl, qE⟩; have FE : Fr W0 wE := below_up FD FD.size qE; obtain ⟨t0, t1, t2, t3, t4, t5, t6, t7⟩ := box8 HB1.out FE; clear qE)))
  go_wp2
  go_ret
  exact ⟨rfl, below_up G0 G0.size FE⟩
end Go.Proofs.Qxb6600664a

import Derived.Test.Qxb6600664aModel
import Derived.Test.Qxb6600664aBytes17
namespace Go.Proofs.Qxb6600664a
open Go.RowKit
set_option linter.unusedVariables false
set_option linter.unusedSimpArgs false

set_option maxHeartbeats 4000000 in
set_option maxRecDepth 100000 in
theorem sum_walk (ur ul up vk uh vp : Value) (last p : Rc) (kids : List ByteArray) (recs held : List En) (pres : List ByteArray) (w : World) (hur : EnSl w ur recs) (huh : EnSl w uh held) (hvp : StrSl w vp pres)
    (hul : RecV w ul last) (hup : RecV w up p) (hvk : StrSl w vk kids) (hl1 : last.kids.length ≤ 9223372036854775807) (hl2 : p.kids.length ≤ 9223372036854775807) (hl3 : kids.length ≤ 9223372036854775807) (hl4 : recs.length ≤ 9223372036854775807) (hl5 : held.length ≤ 9223372036854775807) (hl6 : pres.length ≤ 9223372036854775807) :
    Calls Try.prog 6 #[ur, ul, up, vk, uh, vp] w fun e w' => e = .returned (.bool true) ∧ Below w.heap.size w w' := by
  have HUL := hide hul
  have HUP := hide hup
  have HUR := hide hur
  have HUH := hide huh
  have HVP := hide hvp
  have HVK := hide hvk
  obtain ⟨vl, rfl, ⟨al, cl, rfl, hnl, hrl⟩, hsml⟩ := hul
  obtain ⟨vpp, rfl, ⟨ap, cp, rfl, hnp, hrp⟩, hsmp⟩ := hup
  have HSML := hide hsml
  have HSMP := hide hsmp
  clear hnl hrl hsml hnp hrp hsmp hur huh hvp hvk
  go_enter Try.func6, Try.ntmps6
  go_wp2_with fail
  obtain ⟨W0, hW0⟩ : ∃ W, W = (w.alloc (.cells #[.int .u64 (last.own : Int), .int .u64 (last.waited : Int), .slice al last.kids.length cl, .bool last.out] 31)).alloc (.cells #[.int .u64 (p.own : Int), .int .u64 (p.waited : Int), .slice ap p.kids.length cp, .bool p.out] 31) := ⟨_, rfl⟩
  rw [← hW0]
  obtain ⟨B1, B2, N1, N2⟩ := boxes_new w (.int .u64 (last.own : Int)) (.int .u64 (last.waited : Int)) (.slice al last.kids.length cl) (.bool last.out) (.int .u64 (p.own : Int)) (.int .u64 (p.waited : Int)) (.slice ap p.kids.length cp) (.bool p.out) 31 31 (by simp) (by simp)
  rw [← hW0] at B1 B2 N1 N2
  have G0 : Fr w W0 := by rw [hW0]; exact ((Below.refl _ _).alloc (Nat.le_refl _) _).alloc (by simp) _
  clear hW0
  refine (bytes17 ur _ _ vk uh vp last p kids recs held pres W0 (HUR.out.mono G0) (HUH.out.mono G0) (HVP.out.mono G0) (HUL.out.mono G0) (HUP.out.mono G0) (HVK.out.mono G0) hl1 hl2 hl3 hl4 hl5 hl6).mono ?_
  rintro e w1 ⟨⟨r, rfl⟩, q⟩
  have G1 : Fr w w1 := below_up G0 G0.size q
  replace B1 := B1.mono q
  replace B2 := B2.mono q
  replace N1 := N1.mono q
  replace N2 := N2.mono q
  clear q G0
  obtain ⟨⟨s0, s1, s2, s3⟩, -, -⟩ := id B1
  obtain ⟨⟨s4, s5, s6, s7⟩, -, -⟩ := id B2
  cases r with
  | false =>
    go_wp2_with fail
    go_ret
    exact ⟨rfl, G1⟩
  | true =>
    go_wp2_with fail
    refine (tooBig18 ur _ _ vk uh vp last p kids recs held pres w1 (HUR.out.mono G1) (HUH.out.mono G1) (HVP.out.mono G1) (HUL.out.mono G1) (HUP.out.mono G1) (HVK.out.mono G1) hl1 hl2 hl3 hl4 hl5 hl6).mono ?_
    rintro e w2 ⟨⟨r, rfl, hno⟩, q⟩
    have G2 : Fr w w2 := below_up G1 G1.size q
    replace B1 := B1.mono q
    replace B2 := B2.mono q
    replace N1 := N1.mono q
    replace N2 := N2.mono q
    clear q G1 s0 s1 s2 s3 s4 s5 s6 s7
    cases r with
    | true =>
      clear hno
      go_wp2_with fail
      go_ret
      exact ⟨rfl, G2⟩
    | false =>
      have hbd := hno rfl
      clear hno hl1 hl2 hl3 hl4 hl5 hl6
      have HNN : Hid (∀ s, (newestL held recs s).kids.length ≤ 4096) := newest_le hbd.2.1.2 hbd.1.2
      obtain ⟨⟨hl4, HKR⟩, ⟨hl5, HKH⟩, hl3, hl6, hl1, hl2⟩ := hbd
      have KR : Hid (∀ x ∈ recs, x.r.kids.length ≤ 1000000) := fun x hx => Nat.le_trans (HKR x hx) (by omega)
      have KH : Hid (∀ x ∈ held, x.r.kids.length ≤ 1000000) := fun x hx => Nat.le_trans (HKH x hx) (by omega)
      clear HKR HKH
      go_wp2_with fail
      refine (cloneEnts19 ur recs w2 (HUR.out.mono G2) (by omega) KR.out).mono ?_
      rintro e w3 ⟨u3, rfl, e3, q⟩
      have G3 : Fr w w3 := below_up G2 G2.size q
      replace B1 := B1.mono q
      replace B2 := B2.mono q
      replace N1 := N1.mono q
      replace N2 := N2.mono q
      clear q G2
      obtain ⟨⟨s0, s1, s2, s3⟩, -, -⟩ := id B1
      go_wp2_with fail
      refine (cloneRec20 _ last w3 (HUL.out.mono G3) (by omega)).mono ?_
      rintro e w4 ⟨u4, v4, rfl, hu4, e4, -, q, -⟩
      rw [hu4]
      have G4 : Fr w w4 := below_up G3 G3.size q
      replace B1 := B1.mono q
      replace B2 := B2.mono q
      replace N1 := N1.mono q
      replace N2 := N2.mono q
      replace e3 := e3.mono q
      clear q G3 s0 s1 s2 s3 hu4
      obtain ⟨⟨s0, s1, s2, s3⟩, ⟨f0, f1, f2, f3⟩, -⟩ := id B1
      obtain ⟨⟨s4, s5, s6, s7⟩, -, -⟩ := id B2
      have E4 := hide e4
      obtain ⟨a4, c4, rfl, hn4, hr4⟩ := e4
      clear hn4 hr4
      go_wp2_with fail
      obtain ⟨W5, hW5⟩ : ∃ W, W = put4 w4 w.heap.size (.int .u64 (last.own : Int)) (.int .u64 (last.waited : Int)) (.slice a4 last.kids.length c4) (.bool last.out) := ⟨_, rfl⟩
      have G5 : Fr w W5 := by rw [hW5]; exact put4_below G4 (Nat.le_refl _)
      have e5 : Hid (StrSl W5 (.slice a4 last.kids.length c4) last.kids) := by show StrSl _ _ _; rw [hW5]; exact put4_str N1 (by simp) (by simp) (by simp) E4.out
      have E3 : Hid (EnSl W5 u3 recs) := by show EnSl _ _ _; rw [hW5]; exact put4_en N1 (by simp) (by simp) (by simp) e3
      replace B2 : Box W5 (w.heap.size + 1) (.int .u64 (p.own : Int)) (.int .u64 (p.waited : Int)) (.slice ap p.kids.length cp) (.bool p.out) := by rw [hW5]; exact B2.put_other (Nat.succ_ne_self _)
      replace N2 : NoStr W5 (w.heap.size + 1) := by rw [hW5]; exact put4_no N2 (by simp) (by simp) (by simp) (by simp)
      replace N1 : NoStr W5 w.heap.size := by rw [hW5]; exact put4_no N1 (by simp) (by simp) (by simp) (by simp)
      have B1' : Box W5 w.heap.size (.int .u64 (last.own : Int)) (.int .u64 (last.waited : Int)) (.slice a4 last.kids.length c4) (.bool last.out) := by rw [hW5]; exact B1.put_same
      unfold put4 at hW5
      rw [← hW5]
      clear hW5 B1 G4 s0 s1 s2 s3 f0 f1 f2 f3 e3 E4
      refine (cloneRec20 _ p W5 (HUP.out.mono G5) (by omega)).mono ?_
      rintro e w6 ⟨u6, v6, rfl, hu6, e6, -, q, -⟩
      rw [hu6]
      have G6 : Fr w w6 := below_up G5 G5.size q
      replace B1' := B1'.mono q
      replace B2 := B2.mono q
      replace N1 := N1.mono q
      replace N2 := N2.mono q
      replace E3 : Hid (EnSl w6 u3 recs) := E3.out.mono q
      replace e5 : Hid (StrSl w6 (.slice a4 last.kids.length c4) last.kids) := e5.out.mono q
      clear q G5 s4 s5 s6 s7 hu6
      obtain ⟨⟨s4, s5, s6, s7⟩, ⟨f4, f5, f6, f7⟩, -⟩ := id B2
      have E6 := hide e6
      obtain ⟨a6, c6, rfl, hn6, hr6⟩ := e6
      clear hn6 hr6
      go_wp2_with fail
      obtain ⟨W7, hW7⟩ : ∃ W, W = put4 w6 (w.heap.size + 1) (.int .u64 (p.own : Int)) (.int .u64 (p.waited : Int)) (.slice a6 p.kids.length c6) (.bool p.out) := ⟨_, rfl⟩
      have G7 : Fr w W7 := by rw [hW7]; exact put4_below G6 (Nat.le_succ _)
      have e7 : StrSl W7 (.slice a6 p.kids.length c6) p.kids := by rw [hW7]; exact put4_str N2 (by simp) (by simp) (by simp) E6.out
      have e5' : StrSl W7 (.slice a4 last.kids.length c4) last.kids := by rw [hW7]; exact put4_str N2 (by simp) (by simp) (by simp) e5.out
      have e3 : EnSl W7 u3 recs := by rw [hW7]; exact put4_en N2 (by simp) (by simp) (by simp) E3.out
      have B1 : Box W7 w.heap.size (.int .u64 (last.own : Int)) (.int .u64 (last.waited : Int)) (.slice a4 last.kids.length c4) (.bool last.out) := by rw [hW7]; exact B1'.put_other (Nat.ne_of_lt (Nat.lt_succ_self _))
      have B2' : Box W7 (w.heap.size + 1) (.int .u64 (p.own : Int)) (.int .u64 (p.waited : Int)) (.slice a6 p.kids.length c6) (.bool p.out) := by rw [hW7]; exact B2.put_same
      unfold put4 at hW7
      rw [← hW7]
      clear hW7 B1' B2 G6 s4 s5 s6 s7 f4 f5 f6 f7 E3 E6 e5 N1 N2
      have RL7 : RecV W7 (.agg #[.int .u64 (last.own : Int), .int .u64 (last.waited : Int), .slice a4 last.kids.length c4, .bool last.out]) last := ⟨_, rfl, e5', HSML.out⟩
      have RP7 : RecV W7 (.agg #[.int .u64 (p.own : Int), .int .u64 (p.waited : Int), .slice a6 p.kids.length c6, .bool p.out]) p := ⟨_, rfl, e7, HSMP.out⟩
      clear e5' e7
      go_wp2_with fail
      refine (clone11 vk kids W7 (HVK.out.mono G7) (by omega)).mono ?_
      rintro e w8 ⟨x8, rfl, e8, q⟩
      have G8 : Fr w w8 := below_up G7 G7.size q
      replace B1 := B1.mono q
      replace B2' := B2'.mono q
      replace e3 := e3.mono q
      replace RL7 := RL7.mono q
      replace RP7 := RP7.mono q
      clear q G7
      go_wp2_with fail
      refine (cloneEnts19 uh held w8 (HUH.out.mono G8) (by omega) KH.out).mono ?_
      rintro e w9 ⟨u9, rfl, e9, q⟩
      have G9 : Fr w w9 := below_up G8 G8.size q
      replace B1 := B1.mono q
      replace B2' := B2'.mono q
      replace e3 := e3.mono q
      replace RL7 := RL7.mono q
      replace RP7 := RP7.mono q
      replace e8 := e8.mono q
      clear q G8
      go_wp2_with fail
      refine (clone11 vp pres w9 (HVP.out.mono G9) (by omega)).mono ?_
      rintro e w10 ⟨x10, rfl, e10, q⟩
      have G10 : Fr w w10 := below_up G9 G9.size q
      replace B1 := B1.mono q
      replace B2' := B2'.mono q
      replace e3 := e3.mono q
      replace RL7 := RL7.mono q
      replace RP7 := RP7.mono q
      replace e8 := e8.mono q
      replace e9 := e9.mono q
      clear q G9
      obtain ⟨⟨s0, s1, s2, s3⟩, -, -⟩ := id B1
      obtain ⟨⟨s4, s5, s6, s7⟩, -, -⟩ := id B2'
      go_wp2_with fail
      refine (callWaited21 u3 _ _ x8 u9 x10 last p kids recs held pres w10 e3 e9 e10 RL7 RP7 e8 hl1 hl2 hl3 hl4 hl5 hl6 HNN.out).mono ?_
      rintro e w11 ⟨rfl, q⟩
      have G11 : Fr w w11 := below_up G10 G10.size q
      replace B1 := B1.mono q
      replace B2' := B2'.mono q
      replace RL7 := RL7.mono q
      replace RP7 := RP7.mono q
      replace e8 := e8.mono q
      replace e3 := e3.mono q
      replace e9 := e9.mono q
      replace e10 := e10.mono q
      clear q G10 s0 s1 s2 s3 s4 s5 s6 s7
      obtain ⟨⟨s0, s1, s2, s3⟩, -, -⟩ := id B1
      obtain ⟨⟨s4, s5, s6, s7⟩, -, -⟩ := id B2'
      obtain ⟨g, hg⟩ : ∃ g, g = loopW held recs pres p.kids (p.waited - last.waited) (unionL last.kids kids) := ⟨_, rfl⟩
      have HG := hide hg
      rw [← hg]
      clear hg
      go_wp2_with fail
      refine (model22 u3 _ _ x8 u9 x10 last p kids recs held pres w11 e3 e9 e10 RL7 RP7 e8 hl1 hl2 hl3 hl4 hl5 hl6 HNN.out).mono ?_
      rintro e w12 ⟨rfl, q⟩
      rw [← HG.out]
      have G12 : Fr w w12 := below_up G11 G11.size q
      clear q G11 s0 s1 s2 s3 s4 s5 s6 s7 e3 e9 e10 HG
      go_wp2_with fail
      go_ret
      exact ⟨rfl, G12⟩
end Go.Proofs.Qxb6600664a

import Derived.Test.Qxb6600664aCallW
namespace Go.Proofs.Qxb6600664a
open Go.RowKit
set_option linter.unusedVariables false
set_option linter.unusedSimpArgs false

/-- What 'cpuWaitedTooBig' tells by its no. -/
def Bounds (recs held : List En) (last p : Rc) (kids pres : List ByteArray) : Prop :=
  (recs.length ≤ 4096 ∧ ∀ x ∈ recs, x.r.kids.length ≤ 4096) ∧ (held.length ≤ 4096 ∧ ∀ x ∈ held, x.r.kids.length ≤ 4096) ∧ kids.length ≤ 4096 ∧ pres.length ≤ 4096 ∧ last.kids.length ≤ 4096 ∧ p.kids.length ≤ 4096

set_option maxHeartbeats 2000000 in
set_option maxRecDepth 100000 in
theorem tooBig18 (ur ul up vk uh vp : Value) (last p : Rc) (kids : List ByteArray) (recs held : List En) (pres : List ByteArray) (w : World) (hur : EnSl w ur recs) (huh : EnSl w uh held) (hvp : StrSl w vp pres)
    (hul : RecV w ul last) (hup : RecV w up p) (hvk : StrSl w vk kids) (hl1 : last.kids.length ≤ 9223372036854775807) (hl2 : p.kids.length ≤ 9223372036854775807) (hl3 : kids.length ≤ 9223372036854775807) (hl4 : recs.length ≤ 9223372036854775807) (hl5 : held.length ≤ 9223372036854775807) (hl6 : pres.length ≤ 9223372036854775807) :
    Calls Try.prog 18 #[ur, ul, up, vk, uh, vp] w fun e w' => IfNo e (Bounds recs held last p kids pres) ∧ Below w.heap.size w w' := by
  have HUL := hide hul
  have HUP := hide hup
  have HUR := hide hur
  have HUH := hide huh
  obtain ⟨vl, rfl, ⟨al, cl, rfl, hnl, hrl⟩, hsml⟩ := hul
  obtain ⟨vpp, rfl, ⟨ap, cp, rfl, hnp, hrp⟩, hsmp⟩ := hup
  have HVP := hide hvp
  have HVK := hide hvk
  obtain ⟨ak, ck, rfl, hnk, hrk⟩ := hvk
  obtain ⟨av, cv, rfl, hnv, hrv⟩ := hvp
  clear hnl hrl hsml hnp hrp hsmp hur huh hnk hrk hnv hrv
  go_enter Try.func18, Try.ntmps18
  go_wp2_with fail
  obtain ⟨W0, hW0⟩ : ∃ W, W = (w.alloc (.cells #[.int .u64 (last.own : Int), .int .u64 (last.waited : Int), .slice al last.kids.length cl, .bool last.out] 31)).alloc (.cells #[.int .u64 (p.own : Int), .int .u64 (p.waited : Int), .slice ap p.kids.length cp, .bool p.out] 31) := ⟨_, rfl⟩
  rw [← hW0]
  have HB1 : Hid (Below (w.heap.size + 2) ((w.alloc (.cells #[.int .u64 (last.own : Int), .int .u64 (last.waited : Int), .slice al last.kids.length cl, .bool last.out] 31)).alloc (.cells #[.int .u64 (p.own : Int), .int .u64 (p.waited : Int), .slice ap p.kids.length cp, .bool p.out] 31)) W0) := by rw [hW0]; exact Below.refl _ _
  have G0 : Fr w W0 := by rw [hW0]; exact ((Below.refl _ _).alloc (Nat.le_refl _) _).alloc (by simp) _
  clear hW0
  obtain ⟨s0, s1, s2, s3, s4, s5, s6, s7⟩ := box8 HB1.out (Below.refl W0.heap.size W0)
  refine (tooLong30 ur recs W0 (HUR.out.mono G0) hl4).mono ?_
  rintro e w1 ⟨⟨r1, rfl, hno1⟩, hw⟩
  obtain rfl : W0 = w1 := hw.symm
  cases r1 with
  | true =>
    clear hno1
    go_wp2_with fail
    go_ret
    exact ⟨IfNo.yes _, G0⟩
  | false =>
    have N1 := hide (hno1 rfl)
    clear hno1
    go_wp2_with fail
    refine (tooLong30 uh held W0 (HUH.out.mono G0) hl5).mono ?_
    rintro e w1 ⟨⟨r2, rfl, hno2⟩, hw⟩
    obtain rfl : W0 = w1 := hw.symm
    cases r2 with
    | true =>
      clear hno2
      go_wp2_with fail
      go_ret
      exact ⟨IfNo.yes _, G0⟩
    | false =>
      have N2 := hide (hno2 rfl)
      clear hno2
      by_cases hA : (4096 : Int) < (kids.length : Int)
      · have dA : decide ((4096 : Int) < (kids.length : Int)) = true := by simpa using hA
        go_wp2_with fail
        go_ret
        exact ⟨IfNo.yes _, G0⟩
      · have dA : decide ((4096 : Int) < (kids.length : Int)) = false := by simpa using hA
        by_cases hB : (4096 : Int) < (pres.length : Int)
        · have dB : decide ((4096 : Int) < (pres.length : Int)) = true := by simpa using hB
          go_wp2_with fail
          go_ret
          exact ⟨IfNo.yes _, G0⟩
        · have dB : decide ((4096 : Int) < (pres.length : Int)) = false := by simpa using hB
          by_cases hC : (4096 : Int) < (last.kids.length : Int)
          · have dC : decide ((4096 : Int) < (last.kids.length : Int)) = true := by simpa using hC
            go_wp2_with fail
            go_ret
            exact ⟨IfNo.yes _, G0⟩
          · have dC : decide ((4096 : Int) < (last.kids.length : Int)) = false := by simpa using hC
            by_cases hD : (4096 : Int) < (p.kids.length : Int)
            · have dD : decide ((4096 : Int) < (p.kids.length : Int)) = true := by simpa using hD
              go_wp2_with fail
              go_ret
              exact ⟨IfNo.yes _, G0⟩
            · have dD : decide ((4096 : Int) < (p.kids.length : Int)) = false := by simpa using hD
              have HBD : Hid (Bounds recs held last p kids pres) := ⟨N1.out, N2.out, by omega, by omega, by omega, by omega⟩
              clear hA hB hC hD N1 N2
              go_wp2_with fail
              refine (entriesBytes31 ur recs 0 W0 (HUR.out.mono G0) hl4).mono ?_
              rintro e w1 ⟨⟨z1, rfl⟩, q1⟩
              have F1 : Fr W0 w1 := q1
              clear q1 s0 s1 s2 s3 s4 s5 s6 s7
              go_wp2_with fail
              refine (entriesBytes31 uh held z1 w1 (HUH.out.mono (below_up G0 G0.size F1)) hl5).mono ?_
              rintro e w2 ⟨⟨z2, rfl⟩, q2⟩
              have F2 : Fr W0 w2 := below_up F1 F1.size q2
              clear q2 F1
              obtain ⟨s0, s1, s2, s3, s4, s5, s6, s7⟩ := box8 HB1.out F2
              go_wp2_with fail
              refine (recBytes32 _ last z2 w2 (HUL.out.mono (below_up G0 G0.size F2)) hl1).mono ?_
              rintro e w3 ⟨⟨z3, rfl⟩, q3⟩
              have F3 : Fr W0 w3 := below_up F2 F2.size q3
              clear q3 F2 s0 s1 s2 s3 s4 s5 s6 s7
              obtain ⟨s0, s1, s2, s3, s4, s5, s6, s7⟩ := box8 HB1.out F3
              go_wp2_with fail
              refine (recBytes32 _ p z3 w3 (HUP.out.mono (below_up G0 G0.size F3)) hl2).mono ?_
              rintro e w4 ⟨⟨z4, rfl⟩, q4⟩
              have F4 : Fr W0 w4 := below_up F3 F3.size q4
              clear q4 F3 s0 s1 s2 s3 s4 s5 s6 s7
              go_wp2_with fail
              refine (strsBytes28 _ kids z4 w4 (HVK.out.mono (below_up G0 G0.size F4)) hl3).mono ?_
              rintro e w5 ⟨⟨z5, rfl⟩, hw⟩
              obtain rfl : w4 = w5 := hw.symm
              go_wp2_with fail
              refine (strsBytes28 _ pres z5 w4 (HVP.out.mono (below_up G0 G0.size F4)) hl6).mono ?_
              rintro e w5 ⟨⟨z6, rfl⟩, hw⟩
              obtain rfl : w4 = w5 := hw.symm
              go_wp2_with fail
              go_ret
              exact ⟨IfNo.mk _ HBD.out, below_up G0 G0.size F4⟩
end Go.Proofs.Qxb6600664a

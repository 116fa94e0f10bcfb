import Derived.Test.Qxb6600664aOutside
namespace Go.Proofs.Qxb6600664a
open Go.RowKit
set_option linter.unusedVariables false
set_option linter.unusedSimpArgs false

/-- A record's total, as a uint64. -/
def totalR (r : Rc) : Nat := (r.own + r.waited) % 18446744073709551616
/-- A child's time cannot be told from time outside the group. -/
def taintL (held recs : List En) (pres : List ByteArray) (s : ByteArray) : Bool := (newestL held recs s).out || outsideL held recs pres (newestL held recs s)
/-- What 'waitedInGroup' does with the names, one by one. -/
def loopW (held recs : List En) (pres pk : List ByteArray) : Nat → List ByteArray → Nat
  | rise, [] => rise
  | rise, s :: l => if isIn pk s then loopW held recs pres pk rise l else (if taintL held recs pres s then 0 else loopW held recs pres pk (rise - totalR (newestL held recs s)) l)

theorem loopW_kept {held recs : List En} {pres pk U : List ByteArray} {k rise : Nat} (h : k < U.length) (hin : isIn pk U[k] = true) : loopW held recs pres pk rise (U.drop k) = loopW held recs pres pk rise (U.drop (k + 1)) := by
  rw [List.drop_eq_getElem_cons h, loopW, if_pos hin]
theorem loopW_taint {held recs : List En} {pres pk U : List ByteArray} {k rise : Nat} (h : k < U.length) (hin : isIn pk U[k] = false) (ht : taintL held recs pres U[k] = true) : loopW held recs pres pk rise (U.drop k) = 0 := by
  rw [List.drop_eq_getElem_cons h, loopW, if_neg (by simp [hin]), if_pos ht]
theorem loopW_reaped {held recs : List En} {pres pk U : List ByteArray} {k rise : Nat} (h : k < U.length) (hin : isIn pk U[k] = false) (ht : taintL held recs pres U[k] = false) :
    loopW held recs pres pk rise (U.drop k) = loopW held recs pres pk (rise - totalR (newestL held recs U[k])) (U.drop (k + 1)) := by
  rw [List.drop_eq_getElem_cons h, loopW, if_neg (by simp [hin]), if_neg (by simp [ht])]

theorem wrap_total (r : Rc) : IntKind.u64.wrap ((r.own : Int) + (r.waited : Int)) = ((totalR r : Nat) : Int) := by
  rw [IntKind.wrap_u64]
  unfold totalR
  omega

set_option maxHeartbeats 2000000 in
set_option maxRecDepth 100000 in
theorem waited41 (hb brec bheld bpres nr nh np : Nat) (ul up vk : Value) (last p : Rc) (kids : List ByteArray) (recs held : List En) (pres : List ByteArray) (w : World) (hc : w.cell? ⟨hb, 3, none⟩ = some (.map (some brec))) (hlt : hb < w.heap.size) (hR : RecMap w brec nr recs) (hH : RecMap w bheld nh held) (hP : MapIs w bpres np (presF pres))
    (hul : RecV w ul last) (hup : RecV w up p) (hvk : StrSl w vk kids) (hl1 : last.kids.length ≤ 4096) (hl2 : p.kids.length ≤ 4096) (hl3 : kids.length ≤ 4096) (hN : ∀ s, (newestL held recs s).kids.length ≤ 4096) :
    Calls Try.prog 41 #[.pointer (some ⟨hb, 0, none⟩), ul, up, vk, .map (some bheld), .map (some bpres)] w fun e w' => e = .returned (.int .u64 ((loopW held recs pres p.kids (p.waited - last.waited) (unionL last.kids kids) : Nat) : Int)) ∧ Below w.heap.size w w' := by
  obtain ⟨vl, rfl, hsl, hsml⟩ := hul
  obtain ⟨vp, rfl, hsp, hsmp⟩ := hup
  obtain ⟨al, cl, rfl, hnl, hrl⟩ := hsl
  obtain ⟨ap, cp, rfl, hnp, hrp⟩ := hsp
  have HSL : Hid (StrSl w (.slice al last.kids.length cl) last.kids) := ⟨al, cl, rfl, hnl, hrl⟩
  have HRP := hide hrp
  have HNN := hide hN
  have hpw := hsmp.2
  clear hnl hrl hnp hrp hN hsml
  have ku := unionL_le last.kids kids
  go_enter Try.func41, Try.ntmps41
  go_wp2_with fail
  refine (less43 p.waited last.waited _ hpw).mono ?_
  rintro e w1 ⟨rfl, hw⟩
  have q1 : Below w.heap.size w w1 := by rw [hw]; go_grown
  have c2 : w1.cell? ⟨w.heap.size + 1, 2, none⟩ = some (.slice ap p.kids.length cp) := by rw [hw]; simp
  have c3 : w1.cell? ⟨w.heap.size, 2, none⟩ = some (.slice al last.kids.length cl) := by rw [hw]; simp
  have hsz1 : w.heap.size + 1 < w1.heap.size := by rw [hw]; simp
  clear hw
  go_wp2_with fail
  refine (set39 ap cp p.kids w1 (HRP.out.mono q1) (by omega)).mono ?_
  rintro e w2 ⟨bs, ns, rfl, hbs, hns, hset, q⟩
  have q2 := below_up q1 q1.size q
  have c3' := (q.cell (p := ⟨w.heap.size, 2, none⟩) (by exact Nat.lt_of_succ_lt hsz1)).trans c3
  clear q q1 c2 c3 hbs hns
  go_wp2_with fail
  refine (union29 (.slice al last.kids.length cl) vk last.kids kids w2 (HSL.out.mono q2) (hvk.mono q2) (by omega) (by omega)).mono ?_
  rintro e w3 ⟨vu, rfl, hvu, q⟩
  have q3 := below_up q2 q2.size q
  replace hset := hset.mono q
  clear q q2 c3'
  obtain ⟨U, hU⟩ : ∃ U, U = unionL last.kids kids := ⟨_, rfl⟩
  rw [← hU] at hvu ku
  have HU := hide hU
  clear hU
  obtain ⟨au, cu, rfl, hnu, hru⟩ := hvu
  clear hnu
  go_wp2_with fail
  go_loopw [13, 31] (fun z v wr => ∃ k rise : Nat, k ≤ U.length ∧ v = .int .i64 k ∧ z = .int .u64 (rise : Nat) ∧ rise < 18446744073709551616 ∧ Hid (loopW held recs pres p.kids rise (U.drop k) = loopW held recs pres p.kids (p.waited - last.waited) U) ∧ Below w3.heap.size w3 wr) (fun _ v _ => U.length - (intOf v).toNat)
  case atStart => exact ⟨0, _, Nat.zero_le _, rfl, rfl, by omega, by simp [Hid], Below.refl _ _⟩
  case round =>
    obtain ⟨k, rise, hk, rfl, rfl, hrise, HW, hbel⟩ := hrel
    have q4 := below_up q3 q3.size hbel
    by_cases hlk : k < U.length
    · have hru' := hru.mono hbel
      obtain ⟨b0, o0, rfl, hb0, hc0⟩ := hru'.at (by omega)
      have x0 := hc0 k hlk
      have hsz := hru.size hlk
      clear hc0 hru'
      have hi0 : (k : Int) < (U.length : Int) := by omega
      have hlook := set_look (hset.mono hbel) hsz
      cases hin : isIn p.kids U[k] with
      | true =>
        rw [hin] at hlook
        have HST := hide (loopW_kept (held := held) (recs := recs) (pres := pres) (rise := rise) hlk hin)
        clear hin
        go_wp2_with fail
        go_roundw
        case rel => exact ⟨k + 1, rise, by omega, by go_num, rfl, hrise, by show _ = _; rw [← HST.out, HW.out], hbel⟩
        case measure => simp [intOf]; omega
      | false =>
        rw [hin] at hlook
        have HIN := hide hin
        clear hin
        go_wp2_with fail
        refine (newest44 hb brec bheld nr nh U[k] recs held wr ((q4.cell (p := ⟨hb, 3, none⟩) hlt).trans hc) (Nat.lt_of_lt_of_le hlt q4.size) (hR.mono q4) (hH.mono q4) hsz).mono ?_
        rintro e w4 ⟨u4, rfl, hrv, q⟩
        have q5 := below_up q4 q4.size q
        have hbel5 := below_up hbel hbel.size q
        have HRV := hide hrv
        obtain ⟨v4, hu4, ⟨a4, c4, rfl, hn4, hr4⟩, hsm4⟩ := hrv
        rw [hu4] at HRV ⊢
        have hsa := hsm4.1
        have hsb := hsm4.2
        clear q q4 hlook x0 hn4 hr4 hsm4 hu4 hbel
        obtain ⟨R, hRR⟩ : ∃ R, R = newestL held recs U[k] := ⟨_, rfl⟩
        have HKN := hide (HNN.out U[k])
        rw [← hRR] at HRV hsa hsb HKN ⊢
        have HRR := hide hRR
        clear hRR
        cases hout : R.out with
        | true =>
          have HST : Hid (loopW held recs pres p.kids rise (U.drop k) = 0) := loopW_taint hlk HIN.out (by unfold taintL; rw [← HRR.out, hout]; rfl)
          go_wp2_with fail
          go_ret
          refine ⟨ret_int ?_, ?_⟩
          · rw [← HU.out, ← HW.out, HST.out]; rfl
          · exact q5.alloc q5.size _
        | false =>
          rw [hout] at HRV
          go_wp2_with fail
          have q6 : Below w.heap.size w (w4.alloc (.cells #[.int .u64 (R.own : Int), .int .u64 (R.waited : Int), .slice a4 R.kids.length c4, .bool false] 62)) := q5.alloc q5.size _
          refine (outside45 hb brec bheld bpres nr nh np _ R recs held pres _ ((q6.cell (p := ⟨hb, 3, none⟩) hlt).trans hc) (Nat.lt_of_lt_of_le hlt q6.size) (hR.mono q6) (hH.mono q6) (hP.mono q6) (HRV.out.mono ((Below.refl _ _).alloc (Nat.le_refl _) _)) (by have := HKN.out; omega)).mono ?_
          rintro e w6 ⟨rfl, q⟩
          have q7 := below_up q6 q6.size q
          have hbel7 := below_up (hbel5.alloc hbel5.size (.cells #[.int .u64 (R.own : Int), .int .u64 (R.waited : Int), .slice a4 R.kids.length c4, .bool false] 62)) (by simp; have := hbel5.size; omega) q
          have k0 : w6.cell? ⟨w4.heap.size, 0, none⟩ = some (.int .u64 (R.own : Int)) := (q.cell (by simp)).trans (by simp)
          have k1 : w6.cell? ⟨w4.heap.size, 1, none⟩ = some (.int .u64 (R.waited : Int)) := (q.cell (by simp)).trans (by simp)
          clear q q6 q5 hbel5
          cases hot : outsideL held recs pres R with
          | true =>
            have HST : Hid (loopW held recs pres p.kids rise (U.drop k) = 0) := loopW_taint hlk HIN.out (by unfold taintL; rw [← HRR.out, hout, hot]; rfl)
            clear hout hot
            go_wp2_with fail
            go_ret
            refine ⟨ret_int ?_, q7⟩
            rw [← HU.out, ← HW.out, HST.out]; rfl
          | false =>
            have HST : Hid (loopW held recs pres p.kids rise (U.drop k) = loopW held recs pres p.kids (rise - totalR (newestL held recs U[k])) (U.drop (k + 1))) := loopW_reaped hlk HIN.out (by unfold taintL; rw [← HRR.out, hout, hot]; rfl)
            clear hout hot
            go_wp2_with fail
            rw [wrap_total]
            refine (less43 rise (totalR R) w6 hrise).mono ?_
            rintro e w7 ⟨rfl, hw⟩
            obtain rfl : w6 = w7 := hw.symm
            go_wp2_with fail
            go_roundw
            case rel => exact ⟨k + 1, rise - totalR R, by omega, by go_num, rfl, by omega, by show _ = _; rw [← HW.out, HST.out, HRR.out], hbel7⟩
            case measure => simp [intOf]; omega
    · go_wp2_with fail
      go_ret
      refine ⟨ret_int ?_, q4⟩
      have h := HW.out
      rw [List.drop_eq_nil_of_le (by omega), loopW] at h
      rw [← HU.out, ← h]
end Go.Proofs.Qxb6600664a

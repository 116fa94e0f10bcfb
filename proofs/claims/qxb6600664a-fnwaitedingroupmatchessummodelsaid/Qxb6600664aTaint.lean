import Derived.Test.Qxb6600664aLatest
namespace Go.Proofs.Qxb6600664a
open Go.RowKit
set_option linter.unusedVariables false
set_option linter.unusedSimpArgs false

theorem field31 (x0 x1 x2 x3 : Value) (w : World) : (Instr.field 31 (.agg #[x0, x1, x2, x3]) 3).run Try.prog w = .ok x3 w := by kernel_rfl

set_option maxHeartbeats 1000000 in
set_option maxRecDepth 100000 in
/-- 'cpuTainted'. -/
theorem tainted38 (brec bheld bpres nr nh np : Nat) (u : Value) (r : Rc) (recs held : List En) (pres : List ByteArray) (w : World) (hR : RecMap w brec nr recs) (hH : RecMap w bheld nh held) (hP : MapIs w bpres np (setF pres)) (hu : RecV w u r) (hl : r.kids.length ≤ 1000000) :
    Calls Try.prog 38 #[u, .map (some bheld), .map (some brec), .map (some bpres)] w fun e w' => e = .returned (.bool (r.out || outsideL held recs pres r)) ∧ Below w.heap.size w w' := by
  obtain ⟨v, rfl, ⟨a, c, rfl, hn, hr⟩, hsm⟩ := hu
  clear hn hsm
  obtain ⟨W0, hW0⟩ : ∃ W, W = w.alloc (.cells #[.int .u64 (r.own : Int), .int .u64 (r.waited : Int), .slice a r.kids.length c, .bool r.out] 31) := ⟨_, rfl⟩
  have G0 : Below w.heap.size w W0 := by rw [hW0]; exact (Below.refl _ _).alloc (Nat.le_refl _) _
  have s2 : W0.cell? ⟨w.heap.size, 2, none⟩ = some (.slice a r.kids.length c) := by rw [hW0]; simp
  have s3 : W0.cell? ⟨w.heap.size, 3, none⟩ = some (.bool r.out) := by rw [hW0]; simp
  have hlt0 : w.heap.size < W0.heap.size := by rw [hW0]; simp
  replace hR := hR.mono G0
  replace hH := hH.mono G0
  replace hP := hP.mono G0
  replace hr := hr.mono G0
  cases ho : r.out with
  | true =>
    clear s2 s3 hR hH hP hr G0 hW0 hlt0
    go_enter Try.func38, Try.ntmps38
    go_wp2_with fail
    go_ret
    exact ⟨rfl, by go_grown⟩
  | false =>
    rw [ho] at hW0 s3
    go_enter Try.func38, Try.ntmps38
    go_wp2_with fail
    rw [← hW0]
    clear hW0 ho
    go_loopw [9] (fun v wr => ∃ k : Nat, k ≤ r.kids.length ∧ v = .int .i64 k ∧ Hid ((r.kids.take k).any (fun x => !isIn pres x && (newestL held recs x).out) = false) ∧ Below W0.heap.size W0 wr) (fun v _ => r.kids.length - (intOf v).toNat)
    case atStart => exact ⟨0, Nat.zero_le _, rfl, rfl, Below.refl _ _⟩
    case round =>
      obtain ⟨k, hk, rfl, HA, hbel⟩ := hrel
      have c2 := (hbel.cell (p := ⟨w.heap.size, 2, none⟩) hlt0).trans s2
      have G1 := below_up G0 G0.size hbel
      clear s2 s3
      by_cases hlt2 : k < r.kids.length
      · obtain ⟨b0, o0, rfl, hb0, hc0⟩ := hr.at (by omega)
        have x0 := (hbel.cell (p := ⟨b0, o0 + k, none⟩) hb0).trans (hc0 k hlt2)
        clear hc0
        have hi0 : (k : Int) < (r.kids.length : Int) := by omega
        have hsz := hr.size hlt2
        have hlook := set_look (hP.mono hbel) hsz
        have HST := hide (any_step (fun x => !isIn pres x && (newestL held recs x).out) hlt2)
        cases hin : isIn pres r.kids[k] with
        | true =>
          rw [hin] at hlook
          have HF : Hid ((!isIn pres r.kids[k] && (newestL held recs r.kids[k]).out) = false) := by show (!isIn pres r.kids[k] && (newestL held recs r.kids[k]).out) = false; rw [hin]; rfl
          clear hin
          go_wp2_with fail
          go_roundw
          case rel => exact ⟨k + 1, by omega, by go_num, by show _ = _; rw [HST.out, HA.out, HF.out]; rfl, hbel⟩
          case measure => simp [intOf]; omega
        | false =>
          rw [hin] at hlook
          have HIN := hide hin
          clear hin
          go_wp2_with fail
          refine (latest37 brec bheld nr nh r.kids[k] recs held wr (hR.mono hbel) (hH.mono hbel) hsz).mono ?_
          rintro e w1 ⟨u1, rfl, ⟨v1, hu1, hv1, hs1⟩, q1⟩
          rw [hu1]
          have hbel1 := below_up hbel hbel.size q1
          have G2 := below_up G1 G1.size q1
          have hfld := fun x0 x1 x2 x3 => field31 x0 x1 x2 x3 w1
          clear hu1 hv1 hs1 q1 hlook x0
          cases hout : (newestL held recs r.kids[k]).out with
          | true =>
            have HO : Hid (outsideL held recs pres r = true) := by
              show outsideL held recs pres r = true
              unfold outsideL
              rw [List.any_eq_true]
              exact ⟨r.kids[k], List.getElem_mem hlt2, by rw [HIN.out, hout]; rfl⟩
            clear hout
            go_wp2_with fail
            go_ret
            rw [HO.out]
            exact ⟨rfl, G2⟩
          | false =>
            have HF : Hid ((!isIn pres r.kids[k] && (newestL held recs r.kids[k]).out) = false) := by show (!isIn pres r.kids[k] && (newestL held recs r.kids[k]).out) = false; rw [hout]; simp
            clear hout
            go_wp2_with fail
            go_roundw
            case rel => exact ⟨k + 1, by omega, by go_num, by show _ = _; rw [HST.out, HA.out, HF.out]; rfl, hbel1⟩
            case measure => simp [intOf]; omega
      · have HO : Hid (outsideL held recs pres r = false) := by
          show outsideL held recs pres r = false
          have h := HA.out
          rw [List.take_of_length_le (by omega)] at h
          exact h
        go_wp2_with fail
        go_ret
        rw [HO.out]
        exact ⟨rfl, G1⟩
end Go.Proofs.Qxb6600664a

import Derived.Test.Qxb6600664aCallW
namespace Go.Proofs.Qxb6600664a
open Go.RowKit
set_option linter.unusedVariables false
set_option linter.unusedSimpArgs false

set_option maxHeartbeats 8000000 in
set_option maxRecDepth 100000 in
/-- The bound on total length: some bool; nothing old is written. -/
theorem bytes17 (ur ul up vk uh vp : Value) (last p : Rc) (kids : List ByteArray) (recs held : List En) (pres : List ByteArray) (w : World) (hur : EnSl w ur recs) (huh : EnSl w uh held) (hvp : StrSl w vp pres)
    (hul : RecV w ul last) (hup : RecV w up p) (hvk : StrSl w vk kids) (hl1 : last.kids.length ≤ 9223372036854775807) (hl2 : p.kids.length ≤ 9223372036854775807) (hl3 : kids.length ≤ 9223372036854775807) (hl4 : recs.length ≤ 9223372036854775807) (hl5 : held.length ≤ 9223372036854775807) (hl6 : pres.length ≤ 9223372036854775807) :
    Calls Try.prog 17 #[ur, ul, up, vk, uh, vp] w fun e w' => SomeBool e ∧ Below w.heap.size w w' := by
  obtain ⟨vl, rfl, ⟨al, cl, rfl, hnl, hrl⟩, hsml⟩ := hul
  obtain ⟨vpp, rfl, ⟨ap, cp, rfl, hnp, hrp⟩, hsmp⟩ := hup
  obtain ⟨ak, ck, rfl, hnk, hrk⟩ := hvk
  obtain ⟨av, cv, rfl, hnv, hrv⟩ := hvp
  obtain ⟨ar, cr, rfl, hfr, hrr⟩ := hur
  obtain ⟨ah, ch, rfl, hfh, hrh⟩ := huh
  have HFrecs := hide hfr
  have HFheld := hide hfh
  clear hnl hsml hnp hsmp hnk hnv hfr hfh
  go_enter Try.func17, Try.ntmps17
  go_wp2
  any_goals (go_ret; exact ⟨SomeBool.mk _, ((Below.refl _ _).alloc (Nat.le_refl _) _).alloc (by simp) _⟩)
  obtain ⟨W0, hW0⟩ : ∃ W, W = (w.alloc (.cells #[.int .u64 (last.own : Int), .int .u64 (last.waited : Int), .slice al last.kids.length cl, .bool last.out] 31)).alloc (.cells #[.int .u64 (p.own : Int), .int .u64 (p.waited : Int), .slice ap p.kids.length cp, .bool p.out] 31) := ⟨_, rfl⟩
  rw [← hW0]
  have HB1 : Hid (Below (w.heap.size + 2) ((w.alloc (.cells #[.int .u64 (last.own : Int), .int .u64 (last.waited : Int), .slice al last.kids.length cl, .bool last.out] 31)).alloc (.cells #[.int .u64 (p.own : Int), .int .u64 (p.waited : Int), .slice ap p.kids.length cp, .bool p.out] 31)) W0) := by rw [hW0]; exact Below.refl _ _
  have G0 : Below w.heap.size w W0 := by rw [hW0]; exact ((Below.refl _ _).alloc (Nat.le_refl _) _).alloc (by simp) _
  clear hW0
  obtain ⟨-, -, s2, -, -, -, s6, -⟩ := box8 HB1.out (Below.refl W0.heap.size W0)
  clear HB1
  replace hrl := hrl.mono G0
  replace hrp := hrp.mono G0
  replace hrk := hrk.mono G0
  replace hrv := hrv.mono G0
  replace hrr := hrr.mono G0
  replace hrh := hrh.mono G0
  go_loop [13, 14] (fun z v => ∃ (k : Nat) (n : Int), k ≤ recs.length ∧ v = .int .i64 k ∧ z = .int .i64 n) (fun _ v => recs.length - (intOf v).toNat)
  case atStart => exact ⟨0, _, Nat.zero_le _, rfl, rfl⟩
  case round =>
    obtain ⟨i1, ni1, hi1, rfl, rfl⟩ := hrel
    by_cases lti1 : i1 < recs.length
    · obtain ⟨bi1, oi1, rfl, hbi1, hci1⟩ := hrr.at (by omega)
      obtain ⟨vi1, ⟨x0, x1, x2, x3, x4⟩, ⟨ai1, ci1, rfl, hni1, hri1⟩⟩ := hci1 i1 lti1
      have lki1 := (HFrecs.out recs[i1] (List.getElem_mem lti1)).2.1
      unfold maxLen at lki1
      clear hci1 hni1
      have hii1 : (i1 : Int) < (recs.length : Int) := by omega
      go_wp2
      any_goals (go_ret; exact ⟨SomeBool.mk _, G0⟩)
      go_loop [13, 15] (fun z v => ∃ (k : Nat) (n : Int), k ≤ recs[i1].r.kids.length ∧ v = .int .i64 k ∧ z = .int .i64 n) (fun _ v => recs[i1].r.kids.length - (intOf v).toNat)
      case atStart => exact ⟨0, _, Nat.zero_le _, rfl, rfl⟩
      case round =>
        obtain ⟨j1, nj1, hj1, rfl, rfl⟩ := hrel
        by_cases ltj1 : j1 < recs[i1].r.kids.length
        · obtain ⟨bj1, oj1, rfl, hbj1, hcj1⟩ := hri1.at (by omega)
          have yj1 := hcj1 j1 ltj1
          clear hcj1
          have hij1 : (j1 : Int) < (recs[i1].r.kids.length : Int) := by omega
          go_wp2
          any_goals (go_ret; exact ⟨SomeBool.mk _, G0⟩)
          go_round
          case rel => exact ⟨j1 + 1, _, by omega, by go_num, rfl⟩
          case measure => simp [intOf]; omega
        · go_wp2
          go_round
          case rel => exact ⟨i1 + 1, _, by omega, by go_num, rfl⟩
          case measure => simp [intOf]; omega
    · go_wp2
      any_goals (go_ret; exact ⟨SomeBool.mk _, G0⟩)
      go_loop [13, 16] (fun z v => ∃ (k : Nat) (n : Int), k ≤ last.kids.length ∧ v = .int .i64 k ∧ z = .int .i64 n) (fun _ v => last.kids.length - (intOf v).toNat)
      case atStart => exact ⟨0, _, Nat.zero_le _, rfl, rfl⟩
      case round =>
        obtain ⟨i2, ni2, hi2, rfl, rfl⟩ := hrel
        by_cases lti2 : i2 < last.kids.length
        · obtain ⟨bi2, oi2, rfl, hbi2, hci2⟩ := hrl.at (by omega)
          have xi2 := hci2 i2 lti2
          clear hci2
          have hii2 : (i2 : Int) < (last.kids.length : Int) := by omega
          go_wp2
          any_goals (go_ret; exact ⟨SomeBool.mk _, G0⟩)
          go_round
          case rel => exact ⟨i2 + 1, _, by omega, by go_num, rfl⟩
          case measure => simp [intOf]; omega
        · go_wp2
          any_goals (go_ret; exact ⟨SomeBool.mk _, G0⟩)
          go_loop [13, 17] (fun z v => ∃ (k : Nat) (n : Int), k ≤ p.kids.length ∧ v = .int .i64 k ∧ z = .int .i64 n) (fun _ v => p.kids.length - (intOf v).toNat)
          case atStart => exact ⟨0, _, Nat.zero_le _, rfl, rfl⟩
          case round =>
            obtain ⟨i3, ni3, hi3, rfl, rfl⟩ := hrel
            by_cases lti3 : i3 < p.kids.length
            · obtain ⟨bi3, oi3, rfl, hbi3, hci3⟩ := hrp.at (by omega)
              have xi3 := hci3 i3 lti3
              clear hci3
              have hii3 : (i3 : Int) < (p.kids.length : Int) := by omega
              go_wp2
              any_goals (go_ret; exact ⟨SomeBool.mk _, G0⟩)
              go_round
              case rel => exact ⟨i3 + 1, _, by omega, by go_num, rfl⟩
              case measure => simp [intOf]; omega
            · go_wp2
              any_goals (go_ret; exact ⟨SomeBool.mk _, G0⟩)
              go_loop [13, 18] (fun z v => ∃ (k : Nat) (n : Int), k ≤ kids.length ∧ v = .int .i64 k ∧ z = .int .i64 n) (fun _ v => kids.length - (intOf v).toNat)
              case atStart => exact ⟨0, _, Nat.zero_le _, rfl, rfl⟩
              case round =>
                obtain ⟨i4, ni4, hi4, rfl, rfl⟩ := hrel
                by_cases lti4 : i4 < kids.length
                · obtain ⟨bi4, oi4, rfl, hbi4, hci4⟩ := hrk.at (by omega)
                  have xi4 := hci4 i4 lti4
                  clear hci4
                  have hii4 : (i4 : Int) < (kids.length : Int) := by omega
                  go_wp2
                  any_goals (go_ret; exact ⟨SomeBool.mk _, G0⟩)
                  go_round
                  case rel => exact ⟨i4 + 1, _, by omega, by go_num, rfl⟩
                  case measure => simp [intOf]; omega
                · go_wp2
                  any_goals (go_ret; exact ⟨SomeBool.mk _, G0⟩)
                  go_loop [13, 19] (fun z v => ∃ (k : Nat) (n : Int), k ≤ held.length ∧ v = .int .i64 k ∧ z = .int .i64 n) (fun _ v => held.length - (intOf v).toNat)
                  case atStart => exact ⟨0, _, Nat.zero_le _, rfl, rfl⟩
                  case round =>
                    obtain ⟨i5, ni5, hi5, rfl, rfl⟩ := hrel
                    by_cases lti5 : i5 < held.length
                    · obtain ⟨bi5, oi5, rfl, hbi5, hci5⟩ := hrh.at (by omega)
                      obtain ⟨vi5, ⟨x0, x1, x2, x3, x4⟩, ⟨ai5, ci5, rfl, hni5, hri5⟩⟩ := hci5 i5 lti5
                      have lki5 := (HFheld.out held[i5] (List.getElem_mem lti5)).2.1
                      unfold maxLen at lki5
                      clear hci5 hni5
                      have hii5 : (i5 : Int) < (held.length : Int) := by omega
                      go_wp2
                      any_goals (go_ret; exact ⟨SomeBool.mk _, G0⟩)
                      go_loop [13, 20] (fun z v => ∃ (k : Nat) (n : Int), k ≤ held[i5].r.kids.length ∧ v = .int .i64 k ∧ z = .int .i64 n) (fun _ v => held[i5].r.kids.length - (intOf v).toNat)
                      case atStart => exact ⟨0, _, Nat.zero_le _, rfl, rfl⟩
                      case round =>
                        obtain ⟨j5, nj5, hj5, rfl, rfl⟩ := hrel
                        by_cases ltj5 : j5 < held[i5].r.kids.length
                        · obtain ⟨bj5, oj5, rfl, hbj5, hcj5⟩ := hri5.at (by omega)
                          have yj5 := hcj5 j5 ltj5
                          clear hcj5
                          have hij5 : (j5 : Int) < (held[i5].r.kids.length : Int) := by omega
                          go_wp2
                          any_goals (go_ret; exact ⟨SomeBool.mk _, G0⟩)
                          go_round
                          case rel => exact ⟨j5 + 1, _, by omega, by go_num, rfl⟩
                          case measure => simp [intOf]; omega
                        · go_wp2
                          go_round
                          case rel => exact ⟨i5 + 1, _, by omega, by go_num, rfl⟩
                          case measure => simp [intOf]; omega
                    · go_wp2
                      any_goals (go_ret; exact ⟨SomeBool.mk _, G0⟩)
                      go_loop [13, 21] (fun z v => ∃ (k : Nat) (n : Int), k ≤ pres.length ∧ v = .int .i64 k ∧ z = .int .i64 n) (fun _ v => pres.length - (intOf v).toNat)
                      case atStart => exact ⟨0, _, Nat.zero_le _, rfl, rfl⟩
                      case round =>
                        obtain ⟨i6, ni6, hi6, rfl, rfl⟩ := hrel
                        by_cases lti6 : i6 < pres.length
                        · obtain ⟨bi6, oi6, rfl, hbi6, hci6⟩ := hrv.at (by omega)
                          have xi6 := hci6 i6 lti6
                          clear hci6
                          have hii6 : (i6 : Int) < (pres.length : Int) := by omega
                          go_wp2
                          any_goals (go_ret; exact ⟨SomeBool.mk _, G0⟩)
                          go_round
                          case rel => exact ⟨i6 + 1, _, by omega, by go_num, rfl⟩
                          case measure => simp [intOf]; omega
                        · go_wp2
                          any_goals (go_ret; exact ⟨SomeBool.mk _, G0⟩)

end Go.Proofs.Qxb6600664a

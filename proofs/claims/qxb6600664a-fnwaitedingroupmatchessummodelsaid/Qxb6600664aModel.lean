import Derived.Test.Qxb6600664aIndex
import Derived.Test.Qxb6600664aTaint
import Derived.Test.Qxb6600664aModelPlain
import Derived.Test.Qxb6600664aBoxes
namespace Go.Proofs.Qxb6600664a
open Go.RowKit
set_option linter.unusedVariables false
set_option linter.unusedSimpArgs false

theorem RecV.kidsIn {w : World} {a b v d : Value} {r : Rc} (h : RecV w (.agg #[a, b, v, d]) r) : StrSl w v r.kids := by
  obtain ⟨v', e, hs, _⟩ := h
  injection e with e
  injection e with e
  simp only [List.cons.injEq] at e
  obtain ⟨_, _, rfl, _⟩ := e
  exact hs

theorem StrSl.keptMap {w w' : World} {v : Value} {xs : List ByteArray} {b n : Nat} {f : ByteArray → Option Value} (h : StrSl w v xs) (hm : MapIs w b n f) (hg : w.grownBy w' (some b)) : StrSl w' v xs := by
  obtain ⟨a, c, rfl, hn, h1, h2⟩ := h
  refine ⟨a, c, rfl, hn, h1, ?_⟩
  by_cases hx : xs = []
  · exact .inl hx
  · rcases h2 with h | ⟨b', off, rfl, hlt, hc⟩
    · exact .inl h
    · have hp : 0 < xs.length := List.length_pos_iff.2 hx
      have hne : b' ≠ b := by
        rintro rfl
        obtain ⟨D, ⟨es, clock, hb, _⟩, _⟩ := hm
        have hh := hc 0 hp
        unfold World.cell? at hh
        simp [hb] at hh
      have hblk := hg.block b' hlt (fun e => hne (by simpa using e))
      refine .inr ⟨b', off, rfl, Nat.lt_of_lt_of_le hlt hg.size, fun i hi => ?_⟩
      rw [World.cell?_of_block (w := w) (a := ⟨b', off + i, none⟩) hblk]
      exact hc i hi

theorem RecV.keptMap {w w' : World} {u : Value} {r : Rc} {b n : Nat} {f : ByteArray → Option Value} (h : RecV w u r) (hm : MapIs w b n f) (hg : w.grownBy w' (some b)) : RecV w' u r := by
  obtain ⟨v, e, hs, hl⟩ := h
  exact ⟨v, e, hs.keptMap hm hg, hl⟩

/-- The flag 'over' and the wrapped sum, of the true sum S. -/
def OvIs (z : Value) (tot S : Nat) : Prop := ∃ b : Bool, z = .bool b ∧ (b = false → S = tot) ∧ (b = true → 18446744073709551616 ≤ S)

set_option maxHeartbeats 4000000 in
set_option maxRecDepth 100000 in
/-- 'cpuWaitedModel' is the same function. -/
theorem model22 (ur ul up vk uh vp : Value) (last p : Rc) (kids : List ByteArray) (recs held : List En) (pres : List ByteArray) (w : World) (hur : EnSl w ur recs) (huh : EnSl w uh held) (hvp : StrSl w vp pres)
    (hul : RecV w ul last) (hup : RecV w up p) (hvk : StrSl w vk kids) (hl1 : last.kids.length ≤ 4096) (hl2 : p.kids.length ≤ 4096) (hl3 : kids.length ≤ 4096) (hl4 : recs.length ≤ 4096) (hl5 : held.length ≤ 4096) (hl6 : pres.length ≤ 4096) (hN : ∀ s, (newestL held recs s).kids.length ≤ 4096) :
    Calls Try.prog 22 #[ur, ul, up, vk, uh, vp] w fun e w' => e = .returned (.int .u64 ((loopW held recs pres p.kids (p.waited - last.waited) (unionL last.kids kids) : Nat) : Int)) ∧ Below w.heap.size w w' := by
  have HUL := hide hul
  have HUP := hide hup
  have HUR := hide hur
  have HUH := hide huh
  have HVP := hide hvp
  have HVK := hide hvk
  have HNN := hide hN
  obtain ⟨vl, rfl, ⟨al, cl, rfl, hnl, hrl⟩, hsml⟩ := hul
  obtain ⟨vpp, rfl, ⟨ap, cp, rfl, hnp, hrp⟩, hsmp⟩ := hup
  have hrise : p.waited - last.waited < 18446744073709551616 := by have := hsmp.2; omega
  clear hnl hrl hsml hnp hrp hsmp hur huh hvp hvk hN
  go_enter Try.func22, Try.ntmps22
  go_wp2_with fail
  obtain ⟨W0, hW0⟩ : ∃ W, W = (w.alloc (.cells #[.int .u64 (last.own : Int), .int .u64 (last.waited : Int), .slice al last.kids.length cl, .bool last.out] 31)).alloc (.cells #[.int .u64 (p.own : Int), .int .u64 (p.waited : Int), .slice ap p.kids.length cp, .bool p.out] 31) := ⟨_, rfl⟩
  rw [← hW0]
  obtain ⟨B1, B2, -, -⟩ := boxes_new w (.int .u64 (last.own : Int)) (.int .u64 (last.waited : Int)) (.slice al last.kids.length cl) (.bool last.out) (.int .u64 (p.own : Int)) (.int .u64 (p.waited : Int)) (.slice ap p.kids.length cp) (.bool p.out) 31 31 (by simp) (by simp)
  rw [← hW0] at B1 B2
  have G0 : Fr w W0 := by rw [hW0]; exact ((Below.refl _ _).alloc (Nat.le_refl _) _).alloc (by simp) _
  clear hW0
  refine (rise24 _ _ last p W0 (HUL.out.mono G0) (HUP.out.mono G0)).mono ?_
  rintro e w1 ⟨rfl, q⟩
  have G1 : Fr w w1 := below_up G0 G0.size q
  replace B1 := B1.mono q
  replace B2 := B2.mono q
  clear q G0
  obtain ⟨rise, hris⟩ : ∃ R, R = p.waited - last.waited := ⟨_, rfl⟩
  rw [← hris] at hrise ⊢
  have HRIS := hide hris
  clear hris
  go_wp2_with fail
  refine (index36 uh held w1 (HUH.out.mono G1) (by omega)).mono ?_
  rintro e w2 ⟨bheld, nh, rfl, hH, q⟩
  have G2 : Fr w w2 := below_up G1 G1.size q
  replace B1 := B1.mono q
  replace B2 := B2.mono q
  clear q G1
  go_wp2_with fail
  refine (index36 ur recs w2 (HUR.out.mono G2) (by omega)).mono ?_
  rintro e w3 ⟨brec, nr, rfl, hR, q⟩
  have G3 : Fr w w3 := below_up G2 G2.size q
  replace B1 := B1.mono q
  replace B2 := B2.mono q
  replace hH := hH.mono q
  clear q G2
  go_wp2_with fail
  refine (setOf25 vp pres w3 (HVP.out.mono G3) (by omega)).mono ?_
  rintro e w4 ⟨bpres, np, rfl, -, -, hP, q⟩
  have G4 : Fr w w4 := below_up G3 G3.size q
  replace B1 := B1.mono q
  replace B2 := B2.mono q
  replace hH := hH.mono q
  replace hR := hR.mono q
  clear q G3
  obtain ⟨⟨s4, s5, s6, s7⟩, -, -⟩ := id B2
  go_wp2_with fail
  refine (setOf25 _ p.kids w4 (HUP.out.mono G4).kidsIn (by omega)).mono ?_
  rintro e w5 ⟨bkept, nk, rfl, -, -, hK, q⟩
  have G5 : Fr w w5 := below_up G4 G4.size q
  replace B1 := B1.mono q
  replace hH := hH.mono q
  replace hR := hR.mono q
  replace hP := hP.mono q
  clear q G4 B2 s4 s5 s6 s7
  obtain ⟨⟨s0, s1, s2, s3⟩, -, -⟩ := id B1
  go_wp2_with fail
  refine (setOf25 _ last.kids w5 (HUL.out.mono G5).kidsIn (by omega)).mono ?_
  rintro e w6 ⟨blast, nl, rfl, -, -, hLs, q⟩
  have G6 : Fr w w6 := below_up G5 G5.size q
  replace B1 := B1.mono q
  replace hH := hide (hH.mono q)
  replace hR := hide (hR.mono q)
  replace hP := hide (hP.mono q)
  replace hK := hide (hK.mono q)
  replace hLs := hide hLs
  clear q G5 s0 s1 s2 s3
  obtain ⟨⟨-, -, s2, -⟩, -, hb1⟩ := B1
  obtain ⟨aL, cL, hL, hnL, hrL⟩ := (HUL.out.mono G6).kidsIn
  injection hL with hL1 _ hL2
  subst hL1 hL2
  obtain ⟨aK, cK, rfl, hnK, hrK⟩ := HVK.out
  replace hrK := hrK.mono G6
  clear hnL hnK
  have ku := unionL_le last.kids kids
  obtain ⟨i0, hi, hz0, hz1, hz2⟩ := info_parts info9
  go_wp2_with (at_make; refine wpList_make_own _ rfl _ _ 22 rfl w6.heap.size 9 i0 (.string ByteArray.empty) 1 Try.underlying22 hi hz0 hz1 .i64 .i64 _ (last.kids.length + kids.length) rfl rfl (by omega) (by rw [hz2]; omega) (by unfold maxLen; omega) (Nat.le_refl _) ?_)
  intro w7 hown hg7
  replace hown : Names w7 w6.heap.size (.slice (some ⟨w6.heap.size, 0, none⟩) 0 (last.kids.length + kids.length)) [] := Names.of hown rfl
  have q7 : Below w6.heap.size w6 w7 := (Below.refl _ _).grown hg7 (Nat.le_refl _) (fun k hk => by cases hk)
  clear hg7 hi hz0 hz1 hz2
  have hmk := makeMap_hint 37 4 Try.underlying37 kids.length
  go_wp2_with fail
  go_loopw [19, 20] (fun z v wr => ∃ k : Nat, k ≤ last.kids.length ∧ v = .int .i64 k ∧ Hid (Names wr w6.heap.size z (reapedL p.kids (last.kids.take k))) ∧ Below w6.heap.size w6 wr) (fun _ v _ => last.kids.length - (intOf v).toNat)
  case atStart => exact ⟨0, Nat.zero_le _, rfl, hown, q7⟩
  case round =>
    clear hown q7
    obtain ⟨k, hk, rfl, HOW, hbel⟩ := hrel
    have c2 := (hbel.cell (p := ⟨w.heap.size, 2, none⟩) hb1).trans s2
    have hle := reaped_le p.kids (last.kids.take k)
    rw [List.length_take] at hle
    by_cases hlt : k < last.kids.length
    · obtain ⟨b0, o0, rfl, hb0, hc0⟩ := (hrL.mono hbel).at (by omega)
      have x0 := hc0 k hlt
      have hsz := hrL.size hlt
      clear hc0
      have hi0 : (k : Int) < (last.kids.length : Int) := by omega
      have hlook := set_look (hK.out.mono hbel) hsz
      cases hin : isIn p.kids last.kids[k] with
      | true =>
        rw [hin] at hlook
        rw [← reaped_take_in hlt hin] at HOW
        clear hin hmk
        go_wp2_with fail
        go_roundw
        case rel => exact ⟨k + 1, by omega, by go_num, HOW, hbel⟩
        case measure => simp [intOf]; omega
      | false =>
        rw [hin] at hlook
        have HST := hide (reaped_take_out hlt hin)
        have hown := HOW.out
        have hge := hide (own_ge hown)
        have hsz1 := hbel.size
        clear hin hmk HOW
        go_wp2_with (at_builtin; refine wpList_append_strs rfl _ _ rfl w6.heap.size u19 (reapedL p.kids (last.kids.take k)) rfl (hown.alloc _) _ [last.kids[k]] rfl (one_sl _ _ hsz) ?e1 ?e2 ?_)
        case e1 => simp; omega
        case e2 => simp; omega
        intro v' w8 hown8 hg8
        have hbel8 := (hbel.alloc (by omega) _).grown hg8 (by simp; omega) hge.out
        have HO := hide hown8
        rw [← HST.out] at HO
        clear hown8 hg8 hge hown hlook x0 c2
        go_wp2_with fail
        go_roundw
        case rel => exact ⟨k + 1, by omega, by go_num, HO, hbel8⟩
        case measure => simp [intOf]; omega
    · have HO := HOW
      rw [show last.kids.take k = unionL last.kids (kids.take 0) by rw [List.take_of_length_le (by omega)]; simp [unionL]] at HO
      clear HOW
      go_wp2_with fail
      have hbs := hbel.size
      obtain ⟨bs, hbseq⟩ : ∃ b, b = wr.heap.size := ⟨_, rfl⟩
      have hmap := MapIs.made wr
      have HO2 := hide (HO.out.alloc (.map #[] 0))
      have hbel9 := hbel.alloc hbs (.map #[] 0)
      rw [← hbseq] at hmap hbs ⊢
      obtain ⟨w9, hw9⟩ : ∃ W, W = wr.alloc (.map #[] 0) := ⟨_, rfl⟩
      rw [← hw9] at hmap HO2 hbel9 ⊢
      clear hw9 hbseq HO hbel c2 hmk
      go_loopw [19, 22] (fun z v wr => ∃ j m : Nat, j ≤ kids.length ∧ v = .int .i64 j ∧ m ≤ j ∧ Hid (Names wr w6.heap.size z (reapedL p.kids (unionL last.kids (kids.take j)))) ∧ Hid (MapIs wr bs m (setF (seenL last.kids p.kids (kids.take j)))) ∧ Below w6.heap.size w6 wr) (fun _ v _ => kids.length - (intOf v).toNat)
      case atStart => exact ⟨0, 0, Nat.zero_le _, rfl, Nat.le_refl _, HO2, hmap.congr (fun s => rfl), hbel9⟩
      case round =>
        clear HO2 hmap hbel9
        obtain ⟨j, m, hj, rfl, hmj, HOW, HMP, hbel⟩ := hrel
        have hle2 := reaped_le p.kids (unionL last.kids (kids.take j))
        have hle3 := unionL_le last.kids (kids.take j)
        rw [List.length_take] at hle3
        by_cases hltj : j < kids.length
        · obtain ⟨b0, o0, rfl, hb0, hc0⟩ := (hrK.mono hbel).at (by omega)
          have x0 := hc0 j hltj
          have hsz := hrK.size hltj
          clear hc0
          have hi0 : (j : Int) < (kids.length : Int) := by omega
          have hlook1 := set_look (hLs.out.mono hbel) hsz
          have hlook2 := set_look (hK.out.mono hbel) hsz
          have hlook3 := set_look HMP.out hsz
          cases hin1 : isIn last.kids kids[j] with
          | true =>
            rw [hin1] at hlook1
            rw [← reaped_union_skip hltj (.inl hin1)] at HOW
            rw [← seen_take_skip hltj (.inl hin1)] at HMP
            clear hin1 hlook2 hlook3
            go_wp2_with fail
            go_roundw
            case rel => exact ⟨j + 1, m, by omega, by go_num, by omega, HOW, HMP, hbel⟩
            case measure => simp [intOf]; omega
          | false =>
            rw [hin1] at hlook1
            cases hin2 : isIn p.kids kids[j] with
            | true =>
              rw [hin2] at hlook2
              rw [← reaped_union_skip hltj (.inr (.inl hin2))] at HOW
              rw [← seen_take_skip hltj (.inr hin2)] at HMP
              clear hin1 hin2 hlook3
              go_wp2_with fail
              go_roundw
              case rel => exact ⟨j + 1, m, by omega, by go_num, by omega, HOW, HMP, hbel⟩
              case measure => simp [intOf]; omega
            | false =>
              rw [hin2] at hlook2
              cases hin3 : isIn (seenL last.kids p.kids (kids.take j)) kids[j] with
              | true =>
                rw [hin3] at hlook3
                rw [← reaped_union_skip hltj (.inr (.inr hin3))] at HOW
                have HMP2 : Hid (MapIs wr bs m (setF (seenL last.kids p.kids (kids.take (j + 1))))) := by
                  show MapIs _ _ _ _
                  rw [seen_take_add hltj hin1 hin2]
                  exact HMP.out.congr (setF_again hin3)
                clear hin1 hin2 hin3 HMP
                go_wp2_with fail
                go_roundw
                case rel => exact ⟨j + 1, m, by omega, by go_num, by omega, HOW, HMP2, hbel⟩
                case measure => simp [intOf]; omega
              | false =>
                rw [hin3] at hlook3
                have HS1 := hide (reaped_union_add hltj hin1 hin2 hin3)
                have HS2 := hide (seen_take_add hltj hin1 hin2)
                clear hin1 hin2 hin3
                have hmap := HMP.out
                go_wp2_with (at_mapUpdate; refine wpList_store rfl _ _ _ 37 rfl 4 Try.underlying37 bs m _ rfl hmap (by unfold maxLen; omega) kids[j] (.bool true) rfl rfl hsz ?_)
                intro w10 hmap10 hg10
                have hbel10 := hbel.grown hg10 hbel.size (fun j hj => by cases hj; exact hbs)
                have hown10 : Names w10 w6.heap.size u19 (reapedL p.kids (unionL last.kids (kids.take j))) := HOW.out.kept hg10 (.inr (fun e => own_ne HOW.out hmap e.symm))
                clear hlook1 hlook2 hlook3 hmap hg10 HOW HMP x0 hbel
                have hsz1 := hbel10.size
                have hge := hide (own_ge hown10)
                have hnb := hide (own_ne hown10 hmap10)
                have HM10 := hide hmap10
                clear hmap10
                go_wp2_with (at_builtin; refine wpList_append_strs rfl _ _ rfl w6.heap.size u19 (reapedL p.kids (unionL last.kids (kids.take j))) rfl (hown10.alloc _) _ [kids[j]] rfl (one_sl _ _ hsz) ?e3 ?e4 ?_)
                case e3 => simp; omega
                case e4 => simp; omega
                intro v' w11 hown11 hg11
                have hbel11 := (hbel10.alloc (by omega) _).grown hg11 (by simp; omega) hge.out
                have HM : Hid (MapIs w11 bs (m + 1) (setF (seenL last.kids p.kids (kids.take (j + 1))))) := by
                  show MapIs _ _ _ _
                  rw [HS2.out]
                  exact ((HM10.out.alloc _).kept hg11 hnb.out).congr (fun s => setF_put _ _ s)
                have HO := hide hown11
                rw [← HS1.out] at HO
                clear hown11 hg11 hge hnb hown10 HM10 hbel10
                go_wp2_with fail
                go_roundw
                case rel => exact ⟨j + 1, m + 1, by omega, by go_num, by omega, HO, HM, hbel11⟩
                case measure => simp [intOf]; omega
        · have HO := HOW
          rw [List.take_of_length_le (by omega : kids.length ≤ j)] at HO hle2
          clear HOW HMP hle3
          obtain ⟨Rl, hRl⟩ : ∃ R, R = reapedL p.kids (unionL last.kids kids) := ⟨_, rfl⟩
          rw [← hRl] at HO hle2
          have HRL := hide hRl
          clear hRl
          have HSL : Hid (StrSl wr u19 Rl) := HO.out.sl (fun x hx => by
            rw [HRL.out] at hx
            unfold reapedL at hx
            rcases mem_unionL.1 (List.mem_filter.1 hx).1 with h | h
            · exact hrL.1 x h
            · exact hrK.1 x h)
          obtain ⟨aR, cR, rfl, hnR, hrR⟩ := HSL.out
          clear hnR HSL HO
          obtain ⟨wq, rfl⟩ : ∃ W, W = wr := ⟨_, rfl⟩
          have Gq : Hid (Fr w wq) := below_up G6 G6.size hbel
          replace hR := hide (hR.out.mono hbel)
          replace hH := hide (hH.out.mono hbel)
          replace hP := hide (hP.out.mono hbel)
          have hmk := makeMap_hint 37 4 Try.underlying37 Rl.length
          go_wp2_with fail
          clear hbel hmk hK hLs hrL hrK s2 hb1 hbs HUL HUP HUR HUH HVP HVK
          go_loopw [25, 26, 27] (fun z zb v wr => ∃ i m tot : Nat, i ≤ Rl.length ∧ v = .int .i64 i ∧ z = .int .u64 (tot : Nat) ∧ tot < 18446744073709551616 ∧ m ≤ i ∧ Hid (OvIs zb tot (sumT held recs (Rl.take i))) ∧ Hid (MapIs wr wq.heap.size m (setF (Rl.take i))) ∧ Hid (∀ s ∈ Rl.take i, taintL held recs pres s = false) ∧ Below wq.heap.size wq wr) (fun _ _ v _ => Rl.length - (intOf v).toNat)
          case atStart => exact ⟨0, 0, 0, Nat.zero_le _, rfl, rfl, by omega, Nat.le_refl _, ⟨false, rfl, fun _ => rfl, fun h => by cases h⟩, (MapIs.made wq).congr (fun s => rfl), fun s hs => by simp at hs, (Below.refl _ _).alloc (Nat.le_refl _) _⟩
          case round =>
            obtain ⟨i, m, tot, hii, rfl, rfl, htot, hmi, HOV, HMP, HTN, hbel⟩ := hrel
            by_cases hlt : i < Rl.length
            · obtain ⟨b0, o0, rfl, hb0, hc0⟩ := (hrR.mono hbel).at (by omega)
              have x0 := hc0 i hlt
              have hsz := hrR.size hlt
              clear hc0
              have hi0 : (i : Int) < (Rl.length : Int) := by omega
              go_wp2_with fail
              refine (latest37 brec bheld nr nh Rl[i] recs held wr (hR.out.mono hbel) (hH.out.mono hbel) hsz).mono ?_
              rintro e w13 ⟨u13, rfl, hrv, q⟩
              have hbel13 := below_up hbel hbel.size q
              have HMP13 : Hid (MapIs w13 wq.heap.size m (setF (Rl.take i))) := HMP.out.mono q
              have HRV := hide hrv
              obtain ⟨v13, hu13, ⟨a13, c13, rfl, hn13, hr13⟩, hsm13⟩ := hrv
              rw [hu13] at HRV ⊢
              clear q x0 hn13 hr13 hsm13 hu13 hbel HMP
              have HTT : Hid (taintL held recs pres Rl[i] = ((newestL held recs Rl[i]).out || outsideL held recs pres (newestL held recs Rl[i]))) := rfl
              have HKN := hide (HNN.out Rl[i])
              have HSS := hide (sumT_snoc held recs Rl[i] (Rl.take i))
              rw [← List.take_succ_eq_append_getElem hlt] at HSS
              obtain ⟨R, hRR⟩ : ∃ R, R = newestL held recs Rl[i] := ⟨_, rfl⟩
              rw [← hRR] at HRV HKN HTT HSS ⊢
              clear hRR
              have hlook := set_look (HMP13.out.alloc (.cells #[.int .u64 (R.own : Int), .int .u64 (R.waited : Int), .slice a13 R.kids.length c13, .bool R.out] 31)) hsz
              have hbel14 := hbel13.alloc hbel13.size (.cells #[.int .u64 (R.own : Int), .int .u64 (R.waited : Int), .slice a13 R.kids.length c13, .bool R.out] 31)
              have hwt := wrap_total R
              obtain ⟨t, ht⟩ : ∃ t, t = totalR R := ⟨_, rfl⟩
              have htt : t < 18446744073709551616 := by rw [ht]; exact Nat.mod_lt _ (by omega)
              rw [← ht] at hwt HSS
              clear ht
              cases hin : isIn (Rl.take i) Rl[i] with
              | true =>
                rw [hin] at hlook
                have HM : Hid (MapIs (w13.alloc (.cells #[.int .u64 (R.own : Int), .int .u64 (R.waited : Int), .slice a13 R.kids.length c13, .bool R.out] 31)) wq.heap.size m (setF (Rl.take (i + 1)))) := by
                  show MapIs _ _ _ _
                  rw [List.take_succ_eq_append_getElem hlt]
                  exact (HMP13.out.alloc (.cells #[.int .u64 (R.own : Int), .int .u64 (R.waited : Int), .slice a13 R.kids.length c13, .bool R.out] 31)).congr (setF_again hin)
                have HT : Hid (∀ s ∈ Rl.take (i + 1), taintL held recs pres s = false) := by
                  intro s hs
                  rw [List.take_succ_eq_append_getElem hlt] at hs
                  rcases List.mem_append.1 hs with h | h
                  · exact HTN.out s h
                  · rw [List.mem_singleton.1 h]; exact HTN.out _ (isIn_iff.1 hin)
                clear hin HTN HRV
                by_cases hov : tot + t < 18446744073709551616
                · have hw2 : IntKind.u64.wrap ((tot : Int) + (t : Int)) = ((tot + t : Nat) : Int) := by rw [IntKind.wrap_u64]; omega
                  have hcmp : ¬ (((tot + t : Nat) : Int) < (tot : Int)) := by omega
                  have hcmp' : ¬ (tot + t < tot) := by omega
                  go_wp2_with fail
                  go_roundw
                  case rel =>
                    refine ⟨i + 1, m, tot + t, by omega, by go_num, by go_num, hov, by omega, ?_, HM, HT, hbel14⟩
                    obtain ⟨b, hb, h1, h2⟩ := HOV.out
                    exact ⟨b, hb, fun e => by rw [HSS.out, h1 e], fun e => by have := h2 e; have := HSS.out; omega⟩
                  case measure => simp [intOf]; omega
                · obtain ⟨tot2, htot2⟩ : ∃ n, n = tot + t - 18446744073709551616 := ⟨_, rfl⟩
                  have hw2 : IntKind.u64.wrap ((tot : Int) + (t : Int)) = ((tot2 : Nat) : Int) := by rw [IntKind.wrap_u64]; omega
                  have hcmp : ((tot2 : Int) < (tot : Int)) := by omega
                  have hcmp' : (tot2 < tot) := by omega
                  have HOF : Hid (18446744073709551616 ≤ sumT held recs (Rl.take (i + 1))) := by
                    show _ ≤ _
                    rw [HSS.out]
                    obtain ⟨b, hb, h1, h2⟩ := HOV.out
                    cases b with
                    | false => rw [h1 rfl]; omega
                    | true => have := h2 rfl; omega
                  clear htot2 hov
                  go_wp2_with fail
                  go_roundw
                  case rel => exact ⟨i + 1, m, tot2, by omega, by go_num, rfl, by omega, by omega, ⟨true, rfl, (fun e => by cases e), fun _ => HOF.out⟩, HM, HT, hbel14⟩
                  case measure => simp [intOf]; omega
              | false =>
                rw [hin] at hlook
                clear hin
                have hm14 := HMP13.out.alloc (.cells #[.int .u64 (R.own : Int), .int .u64 (R.waited : Int), .slice a13 R.kids.length c13, .bool R.out] 31)
                have hbq := hbel13.size
                go_wp2_with (at_mapUpdate; refine wpList_store rfl _ _ _ 37 rfl 4 Try.underlying37 wq.heap.size m _ rfl hm14 (by unfold maxLen; omega) Rl[i] (.bool true) rfl rfl hsz ?_)
                intro w14 hmap14 hg14
                have hlt13 := hm14.lt
                have hbel15 := hbel14.grown hg14 hbel14.size (fun j hj => by cases hj; exact Nat.le_refl _)
                have HRV15 := hide ((HRV.out.mono ((Below.refl _ _).alloc (Nat.le_refl _) (.cells #[.int .u64 (R.own : Int), .int .u64 (R.waited : Int), .slice a13 R.kids.length c13, .bool R.out] 31))).keptMap hm14 hg14)
                have HM : Hid (MapIs w14 wq.heap.size (m + 1) (setF (Rl.take (i + 1)))) := by
                  show MapIs _ _ _ _
                  rw [List.take_succ_eq_append_getElem hlt]
                  exact hmap14.congr (fun s => setF_put _ _ s)
                have hbx : w14.heap[w13.heap.size]? = (w13.alloc (.cells #[.int .u64 (R.own : Int), .int .u64 (R.waited : Int), .slice a13 R.kids.length c13, .bool R.out] 31)).heap[w13.heap.size]? := hg14.block _ (by simp) (fun e => by
                  have e' : w13.heap.size = wq.heap.size := by simpa using e
                  have := HMP13.out.lt
                  omega)
                have k0 : w14.cell? ⟨w13.heap.size, 0, none⟩ = some (.int .u64 (R.own : Int)) := (World.cell?_of_block (a := ⟨w13.heap.size, 0, none⟩) hbx).trans (by simp)
                have k1 : w14.cell? ⟨w13.heap.size, 1, none⟩ = some (.int .u64 (R.waited : Int)) := (World.cell?_of_block (a := ⟨w13.heap.size, 1, none⟩) hbx).trans (by simp)
                have k2 : w14.cell? ⟨w13.heap.size, 2, none⟩ = some (.slice a13 R.kids.length c13) := (World.cell?_of_block (a := ⟨w13.heap.size, 2, none⟩) hbx).trans (by simp)
                have k3 : w14.cell? ⟨w13.heap.size, 3, none⟩ = some (.bool R.out) := (World.cell?_of_block (a := ⟨w13.heap.size, 3, none⟩) hbx).trans (by simp)
                have hb14 : w13.heap.size < w14.heap.size := Nat.lt_of_lt_of_le (by simp) hg14.size
                clear hbx hm14 hg14 hmap14 hlook hbel14 HRV hlt13 hbel13 HMP13
                go_wp2_with fail
                refine (tainted38 brec bheld bpres nr nh np _ R recs held pres w14 (hR.out.mono hbel15) (hH.out.mono hbel15) (hP.out.mono hbel15) HRV15.out (by have := HKN.out; omega)).mono ?_
                rintro e w15 ⟨rfl, q⟩
                have hbel16 := below_up hbel15 hbel15.size q
                replace k0 := (q.cell (p := ⟨w13.heap.size, 0, none⟩) hb14).trans k0
                replace k1 := (q.cell (p := ⟨w13.heap.size, 1, none⟩) hb14).trans k1
                replace HM := hide (HM.out.mono q)
                rw [← HTT.out]
                clear q k2 k3 hbel15 HRV15 HTT HKN
                cases htn : taintL held recs pres Rl[i] with
                | true =>
                  have HZ : Hid (loopW held recs pres p.kids rise (unionL last.kids kids) = 0) := loopW_some rise (by rw [← HRL.out]; exact List.getElem_mem hlt) htn
                  clear htn
                  go_wp2_with fail
                  go_ret
                  refine ⟨ret_int ?_, below_up Gq.out Gq.out.size hbel16⟩
                  rw [← HRIS.out, HZ.out]; rfl
                | false =>
                  have HT : Hid (∀ s ∈ Rl.take (i + 1), taintL held recs pres s = false) := by
                    intro s hs
                    rw [List.take_succ_eq_append_getElem hlt] at hs
                    rcases List.mem_append.1 hs with h | h
                    · exact HTN.out s h
                    · rw [List.mem_singleton.1 h]; exact htn
                  clear htn HTN
                  by_cases hov : tot + t < 18446744073709551616
                  · have hw2 : IntKind.u64.wrap ((tot : Int) + (t : Int)) = ((tot + t : Nat) : Int) := by rw [IntKind.wrap_u64]; omega
                    have hcmp : ¬ (((tot + t : Nat) : Int) < (tot : Int)) := by omega
                    have hcmp' : ¬ (tot + t < tot) := by omega
                    go_wp2_with fail
                    go_roundw
                    case rel =>
                      refine ⟨i + 1, m + 1, tot + t, by omega, by go_num, by go_num, hov, by omega, ?_, HM, HT, hbel16⟩
                      obtain ⟨b, hb, h1, h2⟩ := HOV.out
                      exact ⟨b, hb, fun e => by rw [HSS.out, h1 e], fun e => by have := h2 e; have := HSS.out; omega⟩
                    case measure => simp [intOf]; omega
                  · obtain ⟨tot2, htot2⟩ : ∃ n, n = tot + t - 18446744073709551616 := ⟨_, rfl⟩
                    have hw2 : IntKind.u64.wrap ((tot : Int) + (t : Int)) = ((tot2 : Nat) : Int) := by rw [IntKind.wrap_u64]; omega
                    have hcmp : ((tot2 : Int) < (tot : Int)) := by omega
                    have hcmp' : (tot2 < tot) := by omega
                    have HOF : Hid (18446744073709551616 ≤ sumT held recs (Rl.take (i + 1))) := by
                      show _ ≤ _
                      rw [HSS.out]
                      obtain ⟨b, hb, h1, h2⟩ := HOV.out
                      cases b with
                      | false => rw [h1 rfl]; omega
                      | true => have := h2 rfl; omega
                    clear htot2 hov
                    go_wp2_with fail
                    go_roundw
                    case rel => exact ⟨i + 1, m + 1, tot2, by omega, by go_num, rfl, by omega, by omega, ⟨true, rfl, (fun e => by cases e), fun _ => HOF.out⟩, HM, HT, hbel16⟩
                    case measure => simp [intOf]; omega
            · obtain ⟨b, rfl, hb1, hb2⟩ := HOV.out
              rw [List.take_of_length_le (by omega)] at hb1 hb2
              have HTA := HTN.out
              rw [List.take_of_length_le (by omega), HRL.out] at HTA
              have HL := hide (loopW_none (held := held) (recs := recs) (pres := pres) rise HTA)
              rw [← HRL.out] at HL
              clear HTA
              cases b with
              | true =>
                have h2 := hb2 rfl
                have HZ : Hid (loopW held recs pres p.kids rise (unionL last.kids kids) = 0) := by show _ = _; rw [HL.out]; omega
                clear hb1 hb2 h2
                go_wp2_with fail
                go_ret
                refine ⟨ret_int ?_, below_up Gq.out Gq.out.size hbel⟩
                rw [← HRIS.out, HZ.out]; rfl
              | false =>
                have h1 := hb1 rfl
                rw [h1] at HL
                clear hb1 hb2 h1
                by_cases hge : rise ≤ tot
                · have hge1 : (rise : Int) ≤ (tot : Int) := by omega
                  have HZ : Hid (loopW held recs pres p.kids rise (unionL last.kids kids) = 0) := by show _ = _; rw [HL.out]; omega
                  go_wp2_with fail
                  go_ret
                  refine ⟨ret_int ?_, below_up Gq.out Gq.out.size hbel⟩
                  rw [← HRIS.out, HZ.out]; rfl
                · have hge1 : ¬ ((rise : Int) ≤ (tot : Int)) := by omega
                  have hdec : decide ((rise : Int) ≤ (tot : Int)) = false := by simp; omega
                  have hdec' : decide (rise ≤ tot) = false := by simp; omega
                  go_wp2_with fail
                  go_ret
                  refine ⟨ret_int ?_, below_up Gq.out Gq.out.size hbel⟩
                  rw [← HRIS.out, HL.out]
                  omega
end Go.Proofs.Qxb6600664a

import Derived.Test.Qxb6600664aBytesU
import Derived.Deep.RegionWith
namespace Go.Proofs.Qxb6600664a
open Go.RowKit
set_option linter.unusedVariables false
set_option linter.unusedSimpArgs false

theorem addNew_prefix (L : List ByteArray) (y : ByteArray) : L <+: addNew L y := by
  unfold addNew
  split
  · exact List.prefix_refl L
  · exact List.prefix_append L [y]

theorem fold_prefix : ∀ (ys L : List ByteArray), L <+: ys.foldl addNew L
  | [], L => List.prefix_refl L
  | y :: r, L => (addNew_prefix L y).trans (fold_prefix r (addNew L y))

theorem union_prefix (xs ys : List ByteArray) (j : Nat) : unionL xs (ys.take j) <+: unionL xs ys := by
  have h : unionL xs ys = (ys.drop j).foldl addNew (unionL xs (ys.take j)) := by
    unfold unionL
    rw [← List.foldl_append, List.take_append_drop]
  rw [h]
  exact fold_prefix _ _

theorem union_prefix0 (xs ys : List ByteArray) : xs <+: unionL xs ys := union_prefix xs ys 0

/-- The next name is there already. -/
theorem step_old {xs ys : List ByteArray} {j : Nat} (h : j < ys.length) (ho : isIn xs ys[j] = true ∨ isIn (ys.take j) ys[j] = true) : unionL xs (ys.take (j + 1)) = unionL xs (ys.take j) := by
  rw [unionL_step h, addNew, if_pos]
  rw [isIn_iff, mem_unionL]
  rcases ho with ho | ho
  · exact .inl (isIn_iff.1 ho)
  · exact .inr (isIn_iff.1 ho)

/-- The next name is new: it stands in the union right behind what stands there so far. -/
theorem step_new {xs ys : List ByteArray} {j : Nat} (h : j < ys.length) (h1 : isIn xs ys[j] = false) (h2 : isIn (ys.take j) ys[j] = false) :
    unionL xs (ys.take (j + 1)) = unionL xs (ys.take j) ++ [ys[j]] := by
  rw [unionL_step h, addNew, if_neg]
  rw [isIn_iff, mem_unionL]
  rintro (hh | hh)
  · rw [isIn_iff.2 hh] at h1; cases h1
  · rw [isIn_iff.2 hh] at h2; cases h2

theorem prefix_at {P U : List ByteArray} {y : ByteArray} (h : P ++ [y] <+: U) : ∃ hl : P.length < U.length, U[P.length] = y := by
  have hl := h.length_le
  simp at hl
  refine ⟨by omega, ?_⟩
  have := h.getElem (i := P.length) (by simp)
  rw [← this]
  simp

set_option maxHeartbeats 1000000 in
theorem first_walk (v0 v1 : Value) (xs ys : List ByteArray) (w : World) (h0 : StrSl w v0 xs) (h1 : StrSl w v1 ys) (hl0 : xs.length ≤ 9223372036854775807) (hl1 : ys.length ≤ 9223372036854775807) :
    Calls Try.prog 3 #[v0, v1] w fun e w' => e = .returned (.bool true) ∧ Below w.heap.size w w' := by
  go_enter Try.func3, Try.ntmps3
  go_wp2_with fail
  refine (bytes9 v0 v1 xs ys w h0 h1 hl0 hl1).mono ?_
  rintro e w' ⟨⟨r, rfl⟩, hw⟩
  obtain rfl : w = w' := hw.symm
  cases r with
  | false =>
    go_wp2
    go_ret
    exact ⟨rfl, Below.refl _ _⟩
  | true =>
    go_wp2_with fail
    refine (tooBig10 v0 v1 xs ys w h0 h1 hl0 hl1).mono ?_
    rintro e w' ⟨⟨r, rfl, hno⟩, hw⟩
    obtain rfl : w = w' := hw.symm
    cases r with
    | true =>
      clear hno
      go_wp2
      go_ret
      exact ⟨rfl, Below.refl _ _⟩
    | false =>
      obtain ⟨kx, ky⟩ := hno rfl
      clear hno
      have ku := unionL_le xs ys
      go_wp2_with fail
      refine (clone11 v0 xs w h0 (by omega)).mono ?_
      rintro e w1 ⟨x1, rfl, e1, q1⟩
      go_wp2_with fail
      refine (clone11 v1 ys w1 (h1.mono q1) (by omega)).mono ?_
      rintro e w2 ⟨x2, rfl, e2, q⟩
      have q2 := below_up q1 q1.size q
      replace e1 := e1.mono q
      clear q q1
      go_wp2_with fail
      refine (zzunion12 x1 x2 xs ys w2 e1 e2 (by omega) (by omega)).mono ?_
      rintro e w3 ⟨x3, rfl, e3, q⟩
      have q3 := below_up q2 q2.size q
      replace e1 := e1.mono q
      replace e2 := e2.mono q
      clear q q2
      have HP := hide (union_prefix xs ys)
      have HP0 := hide (union_prefix0 xs ys)
      have hUL := (union_prefix0 xs ys).length_le
      obtain ⟨U, hU⟩ : ∃ U, U = unionL xs ys := ⟨_, rfl⟩
      rw [← hU] at e3 ku HP HP0 hUL
      have HU := hide hU
      clear hU
      obtain ⟨a1, c1, rfl, hn1, hr1⟩ := e1
      obtain ⟨a2, c2, rfl, hn2, hr2⟩ := e2
      obtain ⟨a3, c3, rfl, hn3, hr3⟩ := e3
      have HN1 := hide hn1
      have hcap2 := hn2.2
      clear hn1 hn2 hn3
      have dlt : decide ((U.length : Int) < (xs.length : Int)) = false := by simp; omega
      have dlt' : decide (U.length < xs.length) = false := by simp; omega
      go_wp2_with fail
      go_loopw [6] (fun v wr => ∃ k : Nat, k ≤ xs.length ∧ v = .int .i64 k ∧ Below w3.heap.size w3 wr) (fun v _ => xs.length - (intOf v).toNat)
      case atStart => exact ⟨0, Nat.zero_le _, rfl, Below.refl _ _⟩
      case round =>
        obtain ⟨k, hk, rfl, hbel⟩ := hrel
        by_cases hlt : k < xs.length
        · have hlt3 : k < U.length := by omega
          have s1 := hr1.mono hbel
          have s3 := hr3.mono hbel
          obtain ⟨b1, o1, rfl, hb1, hc1⟩ := s1.at (by omega)
          obtain ⟨b3, o3, rfl, hb3, hc3⟩ := s3.at (by omega)
          have x0 := hc1 k hlt
          have y0 := hc3 k hlt3
          clear hc1 hc3
          have hi0 : (k : Int) < (xs.length : Int) := by omega
          have hi1 : (k : Int) < (U.length : Int) := by omega
          have hq := beq_of_eq (HP0.out.getElem hlt).symm
          go_wp2
          go_quiet (fail)
          go_wp2
          go_roundw
          case rel => exact ⟨k + 1, by omega, by go_num, hbel.trans (below_drewN _ _ _)⟩
          case measure => simp [intOf]; omega
        · obtain rfl : k = xs.length := by omega
          go_wp2_with fail
          go_loopw [7, 8] (fun z v wx => ∃ j : Nat, j ≤ ys.length ∧ v = .int .i64 j ∧ z = .int .i64 ((unionL xs (ys.take j)).length : Nat) ∧ Below w3.heap.size w3 wx) (fun _ v _ => ys.length - (intOf v).toNat)
          case atStart => exact ⟨0, Nat.zero_le _, rfl, rfl, hbel⟩
          case round =>
            clear hbel
            obtain ⟨j, hj, rfl, rfl, hbel⟩ := hrel
            by_cases hltj : j < ys.length
            · have s1 : Hid (StrSl wr (.slice a1 xs.length c1) xs) := ⟨a1, c1, rfl, HN1.out, hr1.mono hbel⟩
              have s2 := hr2.mono hbel
              have hsz2 := hr2.1
              obtain ⟨b2, o2, rfl, hb2, hc2⟩ := s2.at (by omega)
              have sj : Hid (StrSl wr (.slice (some ⟨b2, o2, none⟩) j c2) (ys.take j)) := by
                refine ⟨some ⟨b2, o2, none⟩, c2, by rw [List.length_take, Nat.min_eq_left (by omega)], ⟨(fun e => by cases e), by rw [List.length_take]; omega⟩, fun x hx => hsz2 x (List.mem_of_mem_take hx), .inr ⟨b2, o2, rfl, hb2, fun i hi => ?_⟩⟩
                rw [List.length_take] at hi
                rw [hc2 i (by omega), List.getElem_take]
              have x0 := hc2 j hltj
              clear hc2 s2 hsz2
              have hi0 : (j : Int) < (ys.length : Int) := by omega
              have hjc : j ≤ c2 := by omega
              cases hA : isIn xs ys[j] with
              | true =>
                have HST := hide (step_old (xs := xs) hltj (.inl hA))
                have M1 : Hid (∀ n, Calls Try.prog 13 #[.slice a1 xs.length c1, .string ys[j]] (wr.drewN n) fun e w' => e = .returned (.bool true) ∧ w' = wr.drewN n) := fun n => by
                  have := member13 _ xs ys[j] _ (s1.out.drewN n) (by omega)
                  rw [hA] at this
                  exact this
                clear hA sj s1
                go_wp2
                go_quiet ((go_at_call 13; exact Calls.quiet_of_same (M1.out _)))
                go_wp2
                go_roundw
                case rel => exact ⟨j + 1, by omega, by go_num, by rw [HST.out], hbel.trans (below_drewN _ _ _)⟩
                case measure => simp [intOf]; omega
              | false =>
                have M1 : Hid (∀ n, Calls Try.prog 13 #[.slice a1 xs.length c1, .string ys[j]] (wr.drewN n) fun e w' => e = .returned (.bool false) ∧ w' = wr.drewN n) := fun n => by
                  have := member13 _ xs ys[j] _ (s1.out.drewN n) (by omega)
                  rw [hA] at this
                  exact this
                cases hB : isIn (ys.take j) ys[j] with
                | true =>
                  have HST := hide (step_old (xs := xs) hltj (.inr hB))
                  have M2 : Hid (∀ n, Calls Try.prog 13 #[.slice (some ⟨b2, o2, none⟩) j c2, .string ys[j]] (wr.drewN n) fun e w' => e = .returned (.bool true) ∧ w' = wr.drewN n) := fun n => by
                    have := member13 _ (ys.take j) ys[j] _ (sj.out.drewN n) (by rw [List.length_take]; omega)
                    rw [hB] at this
                    exact this
                  clear hA hB sj s1
                  go_wp2
                  go_quiet ((first | (go_at_call_of 13 (Value.slice a1 xs.length c1); exact Calls.quiet_of_same (M1.out _)) | (go_at_call 13; exact Calls.quiet_of_same (M2.out _))))
                  go_wp2
                  go_roundw
                  case rel => exact ⟨j + 1, by omega, by go_num, by rw [HST.out], hbel.trans (below_drewN _ _ _)⟩
                  case measure => simp [intOf]; omega
                | false =>
                  have hnew := step_new (xs := xs) hltj hA hB
                  have hpre := HP.out (j + 1)
                  rw [hnew] at hpre
                  obtain ⟨hkl, hky⟩ := prefix_at hpre
                  clear hpre
                  have HST := hide hnew
                  have M2 : Hid (∀ n, Calls Try.prog 13 #[.slice (some ⟨b2, o2, none⟩) j c2, .string ys[j]] (wr.drewN n) fun e w' => e = .returned (.bool false) ∧ w' = wr.drewN n) := fun n => by
                    have := member13 _ (ys.take j) ys[j] _ (sj.out.drewN n) (by rw [List.length_take]; omega)
                    rw [hB] at this
                    exact this
                  have hq := beq_of_eq hky
                  clear hA hB sj s1 hnew
                  obtain ⟨P, hP⟩ : ∃ P, P = unionL xs (ys.take j) := ⟨_, rfl⟩
                  have HPP : Hid (P = unionL xs (ys.take j)) := hP
                  have s3 := hr3.mono hbel
                  obtain ⟨b3, o3, rfl, hb3, hc3⟩ := s3.at (by omega)
                  have y0 := hc3 _ hkl
                  clear hc3 s3 hky
                  have hi3 : (((unionL xs (ys.take j)).length : Nat) : Int) < (U.length : Int) := by omega
                  have dge' : decide (U.length ≤ (unionL xs (ys.take j)).length) = false := by simp; omega
                  have dge : decide ((U.length : Int) ≤ (((unionL xs (ys.take j)).length : Nat) : Int)) = false := by simp; omega
                  clear hP
                  go_wp2
                  go_quiet ((first | (go_at_call_of 13 (Value.slice a1 xs.length c1); exact Calls.quiet_of_same (M1.out _)) | (go_at_call 13; exact Calls.quiet_of_same (M2.out _))))
                  go_wp2
                  go_quiet (fail)
                  go_wp2
                  go_roundw
                  case rel => exact ⟨j + 1, by omega, by go_num, val_int (by rw [HST.out, List.length_append]; rfl), hbel.trans (below_drewN _ _ _)⟩
                  case measure => simp [intOf]; omega
            · have hjj : ys.take j = ys := List.take_of_length_le (by omega)
              rw [hjj, ← HU.out]
              have hself : ((U.length : Int) == (U.length : Int)) = true := by simp
              go_wp2_with fail
              go_ret
              exact ⟨rfl, below_up q3 q3.size hbel⟩
end Go.Proofs.Qxb6600664a

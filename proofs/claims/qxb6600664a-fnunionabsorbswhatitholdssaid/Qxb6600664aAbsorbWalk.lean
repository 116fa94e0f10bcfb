import Derived.Test.Qxb6600664aBytesU
namespace Go.Proofs.Qxb6600664a
open Go.RowKit
set_option linter.unusedVariables false
set_option linter.unusedSimpArgs false

theorem union_in : ∀ (ys L : List ByteArray), (∀ y ∈ ys, y ∈ L) → unionL L ys = L
  | [], L, _ => rfl
  | y :: r, L, h => by
    unfold unionL
    rw [List.foldl_cons, addNew, if_pos (isIn_iff.2 (h y (by simp)))]
    exact union_in r L (fun z hz => h z (by simp [hz]))

theorem union_again (xs ys : List ByteArray) : unionL (unionL xs ys) ys = unionL xs ys := union_in _ _ fun y hy => mem_unionL.2 (.inr hy)
theorem union_first (xs ys : List ByteArray) : unionL (unionL xs ys) xs = unionL xs ys := union_in _ _ fun y hy => mem_unionL.2 (.inl hy)

set_option maxHeartbeats 1000000 in
theorem absorbs_walk (v0 v1 : Value) (xs ys : List ByteArray) (w : World) (h0 : StrSl w v0 xs) (h1 : StrSl w v1 ys) (hl0 : xs.length ≤ 9223372036854775807) (hl1 : ys.length ≤ 9223372036854775807) :
    Calls Try.prog 5 #[v0, v1] w fun e w' => e = .returned (.bool true) ∧ Below w.heap.size w w' := by
  go_enter Try.func5, Try.ntmps5
  go_wp2_with fail
  refine (bytes16 v0 v1 xs ys w h0 h1 hl0 hl1).mono ?_
  rintro e w' ⟨⟨r, rfl⟩, hw⟩
  obtain rfl : w = w' := hw.symm
  cases r with
  | false =>
    go_wp2
    go_ret
    exact ⟨rfl, Below.refl _ _⟩
  | true =>
    go_wp2_with fail
    refine (tooBig10 v0 v1 xs ys w h0 h1 hl0 hl1).mono ?_
    rintro e w' ⟨⟨r, rfl, hno⟩, hw⟩
    obtain rfl : w = w' := hw.symm
    cases r with
    | true =>
      clear hno
      go_wp2
      go_ret
      exact ⟨rfl, Below.refl _ _⟩
    | false =>
      obtain ⟨kx, ky⟩ := hno rfl
      clear hno
      have ku := unionL_le xs ys
      go_wp2_with fail
      refine (clone11 v0 xs w h0 (by omega)).mono ?_
      rintro e w1 ⟨x1, rfl, e1, q1⟩
      go_wp2_with fail
      refine (clone11 v1 ys w1 (h1.mono q1) (by omega)).mono ?_
      rintro e w2 ⟨x2, rfl, e2, q⟩
      have q2 := below_up q1 q1.size q
      replace e1 := e1.mono q
      clear q q1
      go_wp2_with fail
      refine (zzunion12 x1 x2 xs ys w2 e1 e2 (by omega) (by omega)).mono ?_
      rintro e w3 ⟨x3, rfl, e3, q⟩
      have q3 := below_up q2 q2.size q
      replace e1 := e1.mono q
      replace e2 := e2.mono q
      clear q q2
      go_wp2_with fail
      refine (zzunion12 x3 x2 (unionL xs ys) ys w3 e3 e2 (by omega) (by omega)).mono ?_
      rintro e w4 ⟨x4, rfl, e4, q⟩
      rw [union_again] at e4
      have q4 := below_up q3 q3.size q
      replace e1 := e1.mono q
      replace e3 := e3.mono q
      clear q q3 e2
      go_wp2_with fail
      refine (same15 x4 x3 (unionL xs ys) (unionL xs ys) w4 e4 e3 (by omega)).mono ?_
      rintro e w5 ⟨r, rfl, hr, q⟩
      obtain rfl : r = true := hr.2 rfl
      have q5 := below_up q4 q4.size q
      replace e1 := e1.mono q
      replace e3 := e3.mono q
      clear q q4 e4 hr
      go_wp2_with fail
      refine (zzunion12 x3 x1 (unionL xs ys) xs w5 e3 e1 (by omega) (by omega)).mono ?_
      rintro e w6 ⟨x6, rfl, e6, q⟩
      rw [union_first] at e6
      have q6 := below_up q5 q5.size q
      replace e1 := e1.mono q
      replace e3 := e3.mono q
      clear q q5
      go_wp2_with fail
      refine (same15 x6 x3 (unionL xs ys) (unionL xs ys) w6 e6 e3 (by omega)).mono ?_
      rintro e w7 ⟨r, rfl, hr, q⟩
      obtain rfl : r = true := hr.2 rfl
      have q7 := below_up q6 q6.size q
      replace e1 := e1.mono q
      clear q q6 e6 e3 hr
      go_wp2_with fail
      refine (zzunion12 x1 (.slice none 0 0) xs [] w7 e1 (StrSl.nil w7) (by omega) (by simp)).mono ?_
      rintro e w8 ⟨x8, rfl, e8, q⟩
      have q8 := below_up q7 q7.size q
      replace e1 := e1.mono q
      replace e8 : StrSl w8 x8 xs := e8
      clear q q7
      go_wp2_with fail
      refine (same15 x8 x1 xs xs w8 e8 e1 (by omega)).mono ?_
      rintro e w9 ⟨r, rfl, hr, q⟩
      obtain rfl : r = true := hr.2 rfl
      have q9 := below_up q8 q8.size q
      clear q q8 e8 e1 hr
      go_wp2_with fail
      go_ret
      exact ⟨rfl, q9⟩
end Go.Proofs.Qxb6600664a

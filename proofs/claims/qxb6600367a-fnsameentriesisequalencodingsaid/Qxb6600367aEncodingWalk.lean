import Derived.Test.Qxb6600367aEncWalk
import Derived.Test.Qxb6600367aSame
import Derived.Test.Qxb6600367aToAcl
import Derived.Test.Qxb6600367aBytesB
namespace Go.Proofs.Qxb6600367a
open Go.RowKit
set_option linter.unusedVariables false
set_option linter.unusedSimpArgs false

theorem encode_le (xs : List Ent) (ht : total xs ≤ 1048576) : (encode xs).length ≤ 100000000 := by
  have := body_le xs
  unfold encode
  rw [List.length_append, word_length]
  omega

set_option maxHeartbeats 1000000 in
set_option maxRecDepth 100000 in
theorem encoding_walk (a0 a1 : Option Addr) (c0 c1 : Nat) (xs ys : List Ent) (w : World) (h0 : EntRow w a0 xs) (h1 : EntRow w a1 ys) (hl0 : xs.length ≤ 9223372036854775807) (hl1 : ys.length ≤ 9223372036854775807)
    (f0 : ∀ x ∈ xs, Fits x) (f1 : ∀ y ∈ ys, Fits y) :
    Calls Try.prog 6 #[.slice a0 xs.length c0, .slice a1 ys.length c1] w fun e w' => e = .returned (.bool true) ∧ Below w.heap.size w w' := by
  have F0 := hide f0
  have F1 := hide f1
  clear f0 f1
  go_enter Try.func6, Try.ntmps6
  go_wp2_with fail
  refine (bytes14 a0 a1 c0 c1 xs ys w h0 h1 hl0 hl1).mono ?_
  rintro e w' ⟨⟨r, rfl⟩, hw⟩
  obtain rfl : w = w' := hw.symm
  cases r with
  | false =>
    go_wp2
    go_ret
    exact ⟨rfl, Below.refl _ _⟩
  | true =>
    by_cases hA : (65536 : Int) < (xs.length : Int)
    · go_wp2_with fail
      any_goals (go_ret; exact ⟨rfl, Below.refl _ _⟩)
    · by_cases hB : (65536 : Int) < (ys.length : Int)
      · go_wp2_with fail
        any_goals (go_ret; exact ⟨rfl, Below.refl _ _⟩)
      · have dA : decide ((65536 : Int) < (xs.length : Int)) = false := by simp; omega
        have dB : decide ((65536 : Int) < (ys.length : Int)) = false := by simp; omega
        have kA : xs.length ≤ 1000000 := by omega
        have kB : ys.length ≤ 1000000 := by omega
        go_wp2_with fail
        refine (size_any a0 c0 xs w h0 kA).mono ?_
        rintro e w1 ⟨n1, rfl, b1, t1, m1, hw⟩
        have q1 : Below w.heap.size w w1 := by rw [hw]; exact below_drewN _ _ _
        have T1 := hide t1
        clear hw t1
        go_wp2_with fail
        refine (size_any a1 c1 ys w1 (h1.mono q1) kB).mono ?_
        rintro e w2 ⟨n2, rfl, b2, t2, m2, hw⟩
        have q2 : Below w.heap.size w w2 := by rw [hw]; exact q1.trans (below_drewN _ _ _)
        have T2 := hide t2
        clear hw q1 t2
        by_cases hS : (1048576 : Int) < (n1 : Int) + (n2 : Int)
        · go_wp2_with fail
          go_ret
          exact ⟨rfl, q2⟩
        · have tx : total xs ≤ 1048576 := by rw [← T1.out (by omega)]; omega
          have ty : total ys ≤ 1048576 := by rw [← T2.out (by omega)]; omega
          go_wp2_with fail
          refine (toAcl_any a0 c0 xs w2 (h0.mono q2) kA).mono ?_
          rintro e w3 ⟨x0, d0, rfl, e0, q⟩
          have q3 : Below w.heap.size w w3 := q2.trans (q.mono q2.size)
          clear q q2
          go_wp2_with fail
          refine (toAcl_any a1 c1 ys w3 (h1.mono q3) kB).mono ?_
          rintro e w4 ⟨x1, d1, rfl, e1, q⟩
          have q4 : Below w.heap.size w w4 := q3.trans (q.mono q3.size)
          replace e0 := e0.mono q
          clear q q3
          go_wp2_with fail
          refine (zzsame x0 x1 d0 d1 xs ys w4 e0 e1 kA kB).mono ?_
          rintro e w5 ⟨r1, rfl, hr1, q⟩
          have q5 : Below w.heap.size w w5 := q4.trans (q.mono q4.size)
          have R1 := hide hr1
          clear q q4 hr1 e0 e1
          go_wp2_with fail
          refine (encode19 a0 c0 xs w5 (h0.mono q5) (by omega) tx).mono ?_
          rintro e w6 ⟨v6, rfl, hb6, q⟩
          have q6 : Below w.heap.size w w6 := q5.trans (q.mono q5.size)
          clear q q5
          obtain ⟨y0, p0, rfl, hy0⟩ := hb6.row
          clear hb6
          go_wp2_with fail
          refine (encode19 a1 c1 ys w6 (h1.mono q6) (by omega) ty).mono ?_
          rintro e w7 ⟨v7, rfl, hb7, q⟩
          have q7 : Below w.heap.size w w7 := q6.trans (q.mono q6.size)
          replace hy0 := hy0.mono q
          clear q q6
          obtain ⟨y1, p1, rfl, hy1⟩ := hb7.row
          clear hb7
          go_wp2_with fail
          refine (eqBytes18 y0 y1 p0 p1 (encode xs) (encode ys) w7 hy0 hy1 (encode_le xs tx)).mono ?_
          rintro e w8 ⟨r2, rfl, hr2, m8, hw⟩
          have q8 : Below w.heap.size w w8 := by rw [hw]; exact q7.trans (below_drewN _ _ _)
          clear hw q7
          obtain rfl : r1 = r2 := by
            rw [Bool.eq_iff_iff, R1.out, hr2]
            exact (encode_inj (by omega) (by omega) F0.out F1.out).symm
          clear hr2
          have hself : (r1 == r1) = true := by simp
          go_wp2_with fail
          go_ret
          exact ⟨rfl, q8⟩
end Go.Proofs.Qxb6600367a

import Derived.Test.Qxb6600367aSame
import Derived.Test.Qxb6600367aToAcl
import Derived.Test.Qxb6600367aSize
import Derived.Test.Qxb6600367aBytesA
namespace Go.Proofs.Qxb6600367a
open Go.RowKit
set_option linter.unusedVariables false
set_option linter.unusedSimpArgs false

theorem below_up {B : Nat} {a b c : World} (h : Below B a b) (hB : B ≤ b.heap.size) (k : Below b.heap.size b c) : Below B a c := h.trans (k.mono hB)

set_option maxHeartbeats 1000000 in
set_option maxRecDepth 100000 in
theorem equiv_walk (a0 a1 a2 : Option Addr) (c0 c1 c2 : Nat) (xs ys zs : List Ent) (w : World) (h0 : EntRow w a0 xs) (h1 : EntRow w a1 ys) (h2 : EntRow w a2 zs) (hl0 : xs.length ≤ 9223372036854775807) (hl1 : ys.length ≤ 9223372036854775807) (hl2 : zs.length ≤ 9223372036854775807) :
    Calls Try.prog 7 #[.slice a0 xs.length c0, .slice a1 ys.length c1, .slice a2 zs.length c2] w fun e w' => e = .returned (.bool true) ∧ Below w.heap.size w w' := by
  go_enter Try.func7, Try.ntmps7
  go_wp2_with fail
  refine (bytes20 a0 a1 a2 c0 c1 c2 xs ys zs w h0 h1 h2 hl0 hl1 hl2).mono ?_
  rintro e w' ⟨⟨r, rfl⟩, hw⟩
  obtain rfl : w = w' := hw.symm
  cases r with
  | false =>
    go_wp2
    go_ret
    exact ⟨rfl, Below.refl _ _⟩
  | true =>
    by_cases hA : (65536 : Int) < (xs.length : Int)
    · go_wp2_with fail
      any_goals (go_ret; exact ⟨rfl, Below.refl _ _⟩)
    · by_cases hB : (65536 : Int) < (ys.length : Int)
      · go_wp2_with fail
        any_goals (go_ret; exact ⟨rfl, Below.refl _ _⟩)
      · by_cases hC : (65536 : Int) < (zs.length : Int)
        · go_wp2_with fail
          any_goals (go_ret; exact ⟨rfl, Below.refl _ _⟩)
        · have dA : decide ((65536 : Int) < (xs.length : Int)) = false := by simp; omega
          have dB : decide ((65536 : Int) < (ys.length : Int)) = false := by simp; omega
          have dC : decide ((65536 : Int) < (zs.length : Int)) = false := by simp; omega
          go_wp2_with fail
          have kA : xs.length ≤ 1000000 := by omega
          have kB : ys.length ≤ 1000000 := by omega
          have kC : zs.length ≤ 1000000 := by omega
          refine (size_any a0 c0 xs w h0 kA).mono ?_
          rintro e w1 ⟨n1, rfl, b1, _, m1, hw⟩
          have q1 : Below w.heap.size w w1 := by rw [hw]; exact below_drewN _ _ _
          clear hw
          go_wp2_with fail
          refine (size_any a1 c1 ys w1 (h1.mono q1) kB).mono ?_
          rintro e w2 ⟨n2, rfl, b2, _, m2, hw⟩
          have q2 : Below w.heap.size w w2 := by rw [hw]; exact q1.trans (below_drewN _ _ _)
          clear hw q1
          go_wp2_with fail
          refine (size_any a2 c2 zs w2 (h2.mono q2) kC).mono ?_
          rintro e w3 ⟨n3, rfl, b3, _, m3, hw⟩
          have q3 : Below w.heap.size w w3 := by rw [hw]; exact q2.trans (below_drewN _ _ _)
          clear hw q2
          by_cases hS : (1048576 : Int) < (n1 : Int) + (n2 : Int) + (n3 : Int)
          · go_wp2_with fail
            go_ret
            exact ⟨rfl, q3⟩
          · go_wp2_with fail
            refine (toAcl_any a0 c0 xs w3 (h0.mono q3) kA).mono ?_
            rintro e w4 ⟨x0, d0, rfl, e0, q⟩
            have q4 : Below w.heap.size w w4 := below_up q3 q3.size q
            clear q q3
            go_wp2_with fail
            refine (toAcl_any a0 c0 xs w4 (h0.mono q4) kA).mono ?_
            rintro e w5 ⟨x1, d1, rfl, e1, q⟩
            have q5 : Below w.heap.size w w5 := below_up q4 q4.size q
            replace e0 := e0.mono q
            clear q q4
            go_wp2_with fail
            refine (toAcl_any a1 c1 ys w5 (h1.mono q5) kB).mono ?_
            rintro e w6 ⟨x2, d2, rfl, e2, q⟩
            have q6 : Below w.heap.size w w6 := below_up q5 q5.size q
            replace e0 := e0.mono q
            replace e1 := e1.mono q
            clear q q5
            go_wp2_with fail
            refine (toAcl_any a2 c2 zs w6 (h2.mono q6) kC).mono ?_
            rintro e w7 ⟨x3, d3, rfl, e3, q⟩
            have q7 : Below w.heap.size w w7 := below_up q6 q6.size q
            replace e0 := e0.mono q
            replace e1 := e1.mono q
            replace e2 := e2.mono q
            clear q q6
            go_wp2_with fail
            refine (zzsame x0 x1 d0 d1 xs xs w7 e0 e1 kA kA).mono ?_
            rintro e w8 ⟨r1, rfl, hr, q⟩
            obtain rfl : r1 = true := hr.2 rfl
            have q8 : Below w.heap.size w w8 := below_up q7 q7.size q
            replace e0 := e0.mono q
            replace e2 := e2.mono q
            replace e3 := e3.mono q
            clear q q7 e1 hr
            go_wp2_with fail
            refine (zzsame x0 x2 d0 d2 xs ys w8 e0 e2 kA kB).mono ?_
            rintro e w9 ⟨ab, rfl, hab, q⟩
            have q9 : Below w.heap.size w w9 := below_up q8 q8.size q
            replace e0 := e0.mono q
            replace e2 := e2.mono q
            replace e3 := e3.mono q
            clear q q8
            have HAB := hide hab
            clear hab
            go_wp2_with fail
            refine (zzsame x2 x0 d2 d0 ys xs w9 e2 e0 kB kA).mono ?_
            rintro e w10 ⟨ba, rfl, hba, q⟩
            have q10 : Below w.heap.size w w10 := below_up q9 q9.size q
            replace e0 := e0.mono q
            replace e2 := e2.mono q
            replace e3 := e3.mono q
            clear q q9
            obtain rfl : ab = ba := by
              rw [Bool.eq_iff_iff, HAB.out, hba]
              exact ⟨Eq.symm, Eq.symm⟩
            clear hba
            cases ab with
            | false =>
              go_wp2_with fail
              go_ret
              exact ⟨rfl, q10⟩
            | true =>
              have hxy : Hid (xs = ys) := HAB.out.1 rfl
              go_wp2_with fail
              refine (zzsame x2 x3 d2 d3 ys zs w10 e2 e3 kB kC).mono ?_
              rintro e w11 ⟨bc, rfl, hbc, q⟩
              have q11 : Below w.heap.size w w11 := below_up q10 q10.size q
              replace e0 := e0.mono q
              replace e3 := e3.mono q
              clear q q10
              have HBC := hide hbc
              clear hbc
              cases bc with
              | false =>
                go_wp2_with fail
                go_ret
                exact ⟨rfl, q11⟩
              | true =>
                go_wp2_with fail
                refine (zzsame x0 x3 d0 d3 xs zs w11 e0 e3 kA kC).mono ?_
                rintro e w12 ⟨ac, rfl, hac, q⟩
                have q12 : Below w.heap.size w w12 := below_up q11 q11.size q
                obtain rfl : ac = true := hac.2 (hxy.out.trans (HBC.out.1 (by trivial)))
                clear hac
                go_wp2_with fail
                go_ret
                exact ⟨rfl, q12⟩
end Go.Proofs.Qxb6600367a

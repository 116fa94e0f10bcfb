import Derived.Test.Qxb6600367aEnc
import Derived.Lib.AppendStr
namespace Go.Proofs.Qxb6600367a
open Go.RowKit
set_option linter.unusedVariables false
set_option linter.unusedSimpArgs false

/-- Bytes as cells. -/
def bc (l : List Nat) : List Value := l.map fun (b : Nat) => Value.int .u8 (b : Int)

theorem info5 : (Try.prog.info? 5).map (fun i => (i.zero, i.size, i.bytes)) = some (some (.int .u8 0), 1, 1) := by kernel_rfl

theorem bc_append (a b : List Nat) : bc (a ++ b) = bc a ++ bc b := by simp [bc]

theorem byte_eq (X k : Nat) : (X : Int) / 2 ^ (8 * k) % 256 = ((X / 256 ^ k % 256 : Nat) : Int) := by
  have h : (256 : Nat) ^ k = 2 ^ (8 * k) := by rw [Nat.pow_mul]
  rw [h, Int.natCast_emod, Int.natCast_ediv, Int.natCast_pow]
  rfl

theorem word_take (X k : Nat) (hk : k < 8) : (word X).take (k + 1) = (word X).take k ++ [X / 256 ^ k % 256] := by
  rw [List.take_succ_eq_append_getElem (by rw [word_length]; exact hk)]
  simp [word]

theorem own_ge {w : World} {B e size n : Nat} {v : Value} {xs : List Value} (h : w.ownsRow B e size v n xs) : ∀ k, v.ownBlock = some k → B ≤ k := by
  intro k hk
  rcases h.2 with ⟨rfl, _⟩ | ⟨g, cap, cur, rfl, hg, _⟩
  · simp [Value.ownBlock] at hk
  · simp [Value.ownBlock] at hk
    omega

set_option maxHeartbeats 400000 in
theorem put24 (B n : Nat) (v : Value) (bs : List Nat) (X : Nat) (w : World) (hx1 : X < 18446744073709551616) (hB : B ≤ w.heap.size) (hn : n ≤ 100000000) (hown : w.ownsRow B 5 1 v n (bc bs)) :
    Calls Try.prog 24 #[v, .int .u64 (X : Int)] w fun e w' => ∃ v', e = .returned v' ∧ w'.ownsRow B 5 1 v' (n + 8) (bc (bs ++ word X)) ∧ Below B w w' := by
  obtain ⟨i0, hi, hz0, hz1, hz2⟩ := info_parts info5
  go_enter Try.func24, Try.ntmps24
  go_wp2
  go_loopw [0, 5] (fun u v wr => ∃ k : Nat, k ≤ 8 ∧ v = .int .i64 k ∧ wr.ownsRow B 5 1 u (n + k) (bc (bs ++ (word X).take k)) ∧ Below B w wr) (fun _ v _ => 8 - (intOf v).toNat)
  case atStart => exact ⟨0, by omega, rfl, by simpa using hown, Below.refl _ _⟩
  case round =>
    obtain ⟨k, hk, rfl, how, hbel⟩ := hrel
    by_cases hlt : k < 8
    · have hsz := hbel.size
      have hge := hide (own_ge how)
      go_wp2_with (at_builtin; refine wpList_append_own _ rfl _ _ 34 rfl B 5 i0 (.int .u8 0) 1 1 Try.underlying34 hi hz0 hz1 hz2 rfl (by decide) _ _ _ rfl (how.alloc _) ⟨wr.heap.size, 0, none⟩ 1 1 [.int .u8 ((X : Int) / 2 ^ (8 * k) % 256)] rfl rfl ?c1 ?c2 ?c3 ?c4 ?c5 ?_)
      case c1 =>
        intro j u hj
        match j, hj with
        | 0, hj => simp at hj; subst hj; simp [Addr.add]
      case c2 => intro u hu; simp at hu; subst hu; rfl
      case c3 => unfold maxLen; omega
      case c4 => omega
      case c5 => simp; omega
      intro v' w1 hown' hgrow _
      have hbel1 : Below B w w1 := (hbel.alloc (by omega) _).grown hgrow (by simp; omega) hge.out
      have HO : Hid (w1.ownsRow B 5 1 v' (n + (k + 1)) (bc (bs ++ (word X).take (k + 1)))) := by
        show w1.ownsRow B 5 1 v' (n + (k + 1)) (bc (bs ++ (word X).take (k + 1)))
        rw [word_take X k hlt, ← List.append_assoc, bc_append (bs ++ (word X).take k)]
        have e : bc [X / 256 ^ k % 256] = [Value.int .u8 ((X : Int) / 2 ^ (8 * k) % 256)] := by rw [byte_eq]; rfl
        rw [e]
        exact hown'
      clear hown' hgrow how
      go_wp2
      go_roundw
      case rel => exact ⟨k + 1, by omega, by go_num, HO.out, hbel1⟩
      case measure => simp [intOf]; omega
    · obtain rfl : k = 8 := by omega
      have HO := hide how
      clear how
      go_wp2
      go_ret
      refine ⟨_, rfl, ?_, hbel⟩
      have h := HO.out
      rw [List.take_of_length_le (by rw [word_length]; exact Nat.le_refl _)] at h
      exact h
end Go.Proofs.Qxb6600367a

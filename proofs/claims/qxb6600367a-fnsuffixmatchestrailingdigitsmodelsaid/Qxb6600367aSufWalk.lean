import Derived.Test.Qxb6600367aSufPlain
import Derived.WalkSpells
namespace Go.Proofs.Qxb6600367a
open Go.RowKit
set_option linter.unusedVariables false
set_option linter.unusedSimpArgs false

theorem bytesRow_at (q : ByteArray) (cap j : Nat) (hj : j < q.size) : (bytesRow q cap)[j]? = some (.int .u8 (bt q j : Nat)) := by
  rw [bt_at hj]
  unfold bytesRow
  rw [Array.getElem?_append_left (by simpa using hj), Array.getElem?_map]
  have : q.data[j]? = some (q[j]) := by
    rw [Array.getElem?_eq_getElem (by simpa using hj)]
    rfl
  rw [this]
  rfl

theorem cell_mark (w : World) (c : Array Value) (e : TypeId) (m : Nat × Nat) (j : Nat) (v : Value) (h : c[j]? = some v) : (w.alloc (.cells c e m)).cell? ⟨w.heap.size, j, none⟩ = some v := by
  have hb : (w.alloc (.cells c e m)).heap[w.heap.size]? = some (.cells c e m) := by
    show (w.heap.push _)[w.heap.size]? = _
    simp
  unfold World.cell?
  simp only [hb]
  exact h

theorem bt_extract (s : ByteArray) (a b j : Nat) (hb : b ≤ s.size) (h : a + j < b) : bt (s.extract a b) j = bt s (a + j) := by
  have h1 : j < (s.extract a b).size := by rw [ByteArray.size_extract]; omega
  have h2 : a + j < s.size := by omega
  rw [bt_at h1, bt_at h2, ByteArray.getElem_extract]

theorem bt_last (s : ByteArray) (t j : Nat) (ht : t ≤ s.size) (h10 : 10 ≤ s.size - t) (hj : j < 10) :
    bt ((s.extract t s.size).extract (s.size - t - 10) (s.size - t)) j = bt s (s.size - 10 + j) := by
  rw [bt_extract _ _ _ _ (by rw [ByteArray.size_extract]; omega) (by omega), bt_extract _ _ _ _ (Nat.le_refl _) (by omega)]
  congr 1
  omega

set_option maxHeartbeats 400000 in
theorem suffix21 (s : ByteArray) (w : World) (hs : s.size ≤ 2000000) :
    Calls Try.prog 21 #[.string s] w fun e w' => (∃ r : Int, e = .returned (.int .i64 r) ∧ Suf s r) ∧ Below w.heap.size w w' := by
  have hcv := fun w s => run_bytes_of_string (P := Try.prog) w 9 34 5 s Try.underlying9 Try.underlying34 Try.underlying5
  go_enter Try.func21, Try.ntmps21
  go_wp2_with fail
  refine (lastIndex25 s w hs).mono ?_
  rintro e w' ⟨⟨t, ht, rfl, h47⟩, hw⟩
  obtain rfl : w = w' := hw.symm
  have H := hide h47
  clear h47
  by_cases h10 : (s.size : Int) - (t : Int) < 10
  · go_wp2
    go_ret
    refine ⟨⟨-1, rfl, .inr ⟨?_, rfl⟩⟩, Below.refl _ _⟩
    rintro ⟨g1, g2⟩
    have := H.out (by omega)
    have := g2 (t - 1 - (s.size - 10)) (by omega)
    rw [show s.size - 10 + (t - 1 - (s.size - 10)) = t - 1 by omega] at this
    omega
  · go_wp2
    have hcell : ∀ j, j < 10 → (w.alloc
    (Obj.cells
      (bytesRow ((s.extract t s.size).extract (s.size - t - 10) (s.size - t))
        (grownCap w (s.size - t - (s.size - t - 10)) 0 5))
      5
      ((bytesRow ((s.extract t s.size).extract (s.size - t - 10) (s.size - t))
            (grownCap w (s.size - t - (s.size - t - 10)) 0 5)).size,
        (bytesRow ((s.extract t s.size).extract (s.size - t - 10) (s.size - t))
              (grownCap w (s.size - t - (s.size - t - 10)) 0 5)).size +
          1))).cell? ⟨w.heap.size, j, none⟩ = some (.int .u8 (bt s (s.size - 10 + j) : Nat)) := fun j hj => by
      rw [cell_mark _ _ _ _ _ _ (bytesRow_at _ _ _ (by rw [ByteArray.size_extract, ByteArray.size_extract]; omega)), bt_last s t j ht (by omega) hj]
    go_loop [4, 22] (fun z v => ∃ k : Nat, k ≤ 10 ∧ v = .int .i64 k ∧ z = .int .i64 (val (fun j => bt s (s.size - 10 + j)) k : Nat) ∧ ∀ j, j < k → 48 ≤ bt s (s.size - 10 + j) ∧ bt s (s.size - 10 + j) ≤ 57) (fun _ v => 10 - (intOf v).toNat)
    case atStart => exact ⟨0, by omega, rfl, rfl, fun j h => absurd h (Nat.not_lt_zero _)⟩
    case round =>
      obtain ⟨k, hk, rfl, rfl, hd⟩ := hrel
      have HD := hide hd
      have hv : val (fun j => bt s (s.size - 10 + j)) k < 10 ^ k := val_lt _ _ (fun j hj => (hd j hj).2)
      clear hd
      by_cases hlt : k < 10
      · have hc := hcell k hlt
        clear hcell
        have hp : 10 ^ k ≤ 1000000000 := by
          have := Nat.pow_le_pow_right (n := 10) (by omega) (show k ≤ 9 by omega)
          omega
        have hv2 : (val (fun j => bt s (s.size - 10 + j)) k : Int) ≤ 1000000000 := by omega
        clear hv hp
        have hb := bt_lt s (s.size - 10 + k)
        by_cases hlo : ((bt s (s.size - 10 + k) : Nat) : Int) < 48
        · go_wp2
          go_ret
          exact ⟨⟨-1, rfl, .inr ⟨fun g => by have := g.2 k hlt; omega, rfl⟩⟩, ((Below.refl _ _).alloc (Nat.le_refl _) _).drew⟩
        · by_cases hhi : (57 : Int) < ((bt s (s.size - 10 + k) : Nat) : Int)
          · go_wp2
            go_ret
            exact ⟨⟨-1, rfl, .inr ⟨fun g => by have := g.2 k hlt; omega, rfl⟩⟩, ((Below.refl _ _).alloc (Nat.le_refl _) _).drew⟩
          · have hlo' : (48 : Int) ≤ ((bt s (s.size - 10 + k) : Nat) : Int) := by omega
            have hhi' : ((bt s (s.size - 10 + k) : Nat) : Int) ≤ 57 := by omega
            clear hlo hhi
            go_wp2
            go_round
            case rel =>
              refine ⟨k + 1, by omega, by go_num, val_int ?_, ?_⟩
              · simp only [val]; omega
              · intro j hj
                by_cases e : j = k
                · subst e; omega
                · exact HD.out j (by omega)
            case measure => simp [intOf]; omega
      · obtain rfl : k = 10 := by omega
        clear hcell
        go_wp2
        go_ret
        exact ⟨⟨_, rfl, .inl ⟨⟨by omega, fun j hj => HD.out j hj⟩, rfl⟩⟩, ((Below.refl _ _).alloc (Nat.le_refl _) _).drew⟩

/-- 'ZZsuffix'. -/
theorem suffix9 (s : ByteArray) (w : World) (hs : s.size ≤ 2000000) :
    Calls Try.prog 9 #[.string s] w fun e w' => (∃ r : Int, e = .returned (.int .i64 r) ∧ Suf s r) ∧ Below w.heap.size w w' := by
  go_enter Try.func9, Try.ntmps9
  go_wp2_with fail
  refine (suffix21 s w hs).mono ?_
  rintro e w' ⟨⟨r, rfl, hr⟩, hb⟩
  go_wp2
  go_ret
  exact ⟨⟨r, rfl, hr⟩, hb⟩
end Go.Proofs.Qxb6600367a

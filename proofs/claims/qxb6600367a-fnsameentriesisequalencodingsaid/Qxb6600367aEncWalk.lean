import Derived.Test.Qxb6600367aPut
import Derived.Test.Qxb6600367aSize
namespace Go.Proofs.Qxb6600367a
open Go.RowKit
set_option linter.unusedVariables false
set_option linter.unusedSimpArgs false

/-- v is a slice of the call's own (blocks from B on) that holds just the bytes bs. -/
def Buf (w : World) (B : Nat) (v : Value) (bs : List Nat) : Prop := w.ownsRow B 5 1 v bs.length (bc bs)

theorem put24' (B : Nat) (v : Value) (bs : List Nat) (X : Nat) (w : World) (hx1 : X < 18446744073709551616) (hB : B ≤ w.heap.size) (hn : bs.length ≤ 100000000) (hown : Buf w B v bs) :
    Calls Try.prog 24 #[v, .int .u64 (X : Int)] w fun e w' => ∃ v', e = .returned v' ∧ Buf w' B v' (bs ++ word X) ∧ Below B w w' := by
  refine (put24 B bs.length v bs X w hx1 hB hn hown).mono ?_
  rintro e w' ⟨v', rfl, h, hb⟩
  refine ⟨v', rfl, ?_, hb⟩
  unfold Buf
  rw [List.length_append, word_length]
  exact h

theorem Buf.of {w : World} {B n : Nat} {v : Value} {cells : List Value} {bs : List Nat} (h : w.ownsRow B 5 1 v n cells) (hc : cells = bc bs) : Buf w B v bs := by
  have hn : n = bs.length := by
    have := h.1
    rw [hc] at this
    simpa [bc] using this.symm
  rw [hn, hc] at h
  exact h

theorem strCells_eq (s : ByteArray) : Lib.strCells s = bc (sb s) := by
  unfold Lib.strCells bc sb
  rw [List.map_map]
  rfl

theorem body_le (l : List Ent) : (body l).length ≤ total l := by
  induction l with
  | nil => simp [body]
  | cons x r ih => simp only [body, total, List.length_append, ent_length]; omega

theorem total_le (xs : List Ent) (k : Nat) : total (xs.take k) ≤ total xs := by
  conv => rhs; rw [← List.take_append_drop k xs, total_append]
  omega

theorem pw_eq (p : Int) : p % 4294967296 = ((pw p : Nat) : Int) := by unfold pw; omega

set_option maxHeartbeats 1000000 in
theorem encode19 (a0 : Option Addr) (c0 : Nat) (xs : List Ent) (w : World) (h0 : EntRow w a0 xs) (hl : xs.length ≤ 65536) (ht : total xs ≤ 1048576) :
    Calls Try.prog 19 #[.slice a0 xs.length c0] w fun e w' => ∃ v', e = .returned v' ∧ Buf w' w.heap.size v' (encode xs) ∧ Below w.heap.size w w' := by
  obtain ⟨i0, hi, hz0, hz1, hz2⟩ := info_parts info5
  go_enter Try.func19, Try.ntmps19
  go_wp2_with fail
  refine (put24' w.heap.size (.slice none 0 0) [] xs.length w (by omega) (Nat.le_refl _) (by simp) (World.ownsRow_nil _ _ _ _)).mono ?_
  rintro e w1 ⟨v1, rfl, hb1, q1⟩
  go_wp2_with fail
  go_loopw [3, 12] (fun u v wr => ∃ k : Nat, k ≤ xs.length ∧ v = .int .i64 k ∧ Buf wr w.heap.size u (word xs.length ++ body (xs.take k)) ∧ Below w.heap.size w wr) (fun _ v _ => xs.length - (intOf v).toNat)
  case atStart => exact ⟨0, Nat.zero_le _, rfl, by simpa [body] using hb1, q1⟩
  case round =>
    obtain ⟨k, hk, rfl, hbuf, hbel⟩ := hrel
    by_cases hlt : k < xs.length
    · obtain ⟨b0, o0, rfl, hb0, hc0⟩ := h0.at (by omega)
      obtain ⟨x0, x1, x2⟩ := hc0 k hlt
      clear hc0
      have hi0 : (k : Int) < (xs.length : Int) := by omega
      have l1 := body_le (xs.take k)
      have l2 := total_le xs (k + 1)
      have HT := hide (total_step hlt)
      have l3 : total (xs.take k) + (40 + xs[k].s.size + xs[k].d.size) ≤ 1048576 := by rw [← HT.out]; omega
      have y0 := (hbel.cell (p := ⟨b0, o0 + k * 3, none⟩) hb0).trans x0
      go_wp2_with fail
      rw [pw_eq]
      refine (put24' w.heap.size u3 _ (pw xs[k].p) wr (by have := pw_lt xs[k].p; omega) hbel.size (by rw [List.length_append, word_length]; omega) hbuf).mono ?_
      rintro e w2 ⟨v2, rfl, hb2, q⟩
      have q2 := hbel.trans q
      clear q hbuf hbel y0
      have y1 := (q2.cell (p := ⟨b0, o0 + k * 3 + 1, none⟩) hb0).trans x1
      go_wp2_with fail
      refine (put24' w.heap.size v2 _ xs[k].s.size w2 (by omega) q2.size (by simp only [List.length_append, word_length]; omega) hb2).mono ?_
      rintro e w3 ⟨v3, rfl, hb3, q⟩
      have q3 := q2.trans q
      clear q hb2 q2 y1
      have y1 := (q3.cell (p := ⟨b0, o0 + k * 3 + 1, none⟩) hb0).trans x1
      have hsz3 := q3.size
      have hge := hide (own_ge hb3)
      have hn3 : ((((word xs.length ++ body (xs.take k)) ++ word (pw xs[k].p)) ++ word xs[k].s.size)).length ≤ 100000000 := by simp only [List.length_append, word_length]; omega
      go_wp2_with (at_builtin; refine Lib.wpList_append_own_string _ rfl (.tmp 33) (.tmp 38) 34 9 rfl w.heap.size 5 i0 Try.underlying34 Try.underlying9 hi hz0 hz1 hz2 _ _ _ rfl hb3 xs[k].s rfl ?d3 ?d4 ?d5 ?_)
      case d3 => unfold maxLen; omega
      case d4 => omega
      case d5 => exact hsz3
      intro v4 w4 hown4 hgrow4 _
      have hb4 : Buf w4 w.heap.size v4 (((((word xs.length ++ body (xs.take k)) ++ word (pw xs[k].p)) ++ word xs[k].s.size)) ++ sb xs[k].s) := Buf.of hown4 (by rw [strCells_eq]; simp [bc_append])
      have q4 := q3.grown hgrow4 hsz3 hge.out
      clear hown4 hgrow4 hge hsz3 q3 hb3 y1 hn3
      have y2 := (q4.cell (p := ⟨b0, o0 + k * 3 + 2, none⟩) hb0).trans x2
      go_wp2_with fail
      refine (put24' w.heap.size v4 _ xs[k].d.size w4 (by omega) q4.size (by simp only [List.length_append, word_length, sb_length]; omega) hb4).mono ?_
      rintro e w5 ⟨v5, rfl, hb5, q⟩
      have q5 := q4.trans q
      clear q hb4 q4 y2
      have y2 := (q5.cell (p := ⟨b0, o0 + k * 3 + 2, none⟩) hb0).trans x2
      have hsz5 := q5.size
      have hge := hide (own_ge hb5)
      have hn5 : ((((((word xs.length ++ body (xs.take k)) ++ word (pw xs[k].p)) ++ word xs[k].s.size)) ++ sb xs[k].s) ++ word xs[k].d.size).length ≤ 100000000 := by simp only [List.length_append, word_length, sb_length]; omega
      go_wp2_with (at_builtin; refine Lib.wpList_append_own_string _ rfl (.tmp 49) (.tmp 54) 34 9 rfl w.heap.size 5 i0 Try.underlying34 Try.underlying9 hi hz0 hz1 hz2 _ _ _ rfl hb5 xs[k].d rfl ?f3 ?f4 ?f5 ?_)
      case f3 => unfold maxLen; omega
      case f4 => omega
      case f5 => exact hsz5
      intro v6 w6 hown6 hgrow6 _
      have hb6 : Buf w6 w.heap.size v6 (word xs.length ++ body (xs.take (k + 1))) := Buf.of hown6 (by rw [strCells_eq, body_step hlt]; simp [bc_append, ent])
      have q6 := q5.grown hgrow6 hsz5 hge.out
      clear hown6 hgrow6 hge hsz5 q5 hb5 y2 hn5
      go_wp2
      go_roundw
      case rel => exact ⟨k + 1, by omega, by go_num, hb6, q6⟩
      case measure => simp [intOf]; omega
    · go_wp2
      go_ret
      refine ⟨_, rfl, ?_, hbel⟩
      rw [List.take_of_length_le (by omega)] at hbuf
      exact hbuf

/-- The bytes lie at the slice's head. -/
theorem Buf.at {w : World} {B : Nat} {v : Value} {bs : List Nat} (h : Buf w B v bs) : ∃ a c, v = .slice a bs.length c ∧ (bs ≠ [] → ∃ g, a = some ⟨g, 0, none⟩ ∧ g < w.heap.size ∧ ∀ j (hj : j < bs.length), w.cell? ⟨g, j, none⟩ = some (.int .u8 (bs[j] : Nat))) := by
  have hh := h
  obtain ⟨h1, h2⟩ := h
  rcases h2 with ⟨rfl, hz⟩ | ⟨g, cap, cur, rfl, hg, hb, _⟩
  · exact ⟨none, 0, by rw [hz], fun hne => absurd (List.length_eq_zero_iff.1 hz) hne⟩
  · refine ⟨_, _, rfl, fun _ => ⟨g, rfl, (Array.getElem?_eq_some_iff.1 hb).1, fun j hj => ?_⟩⟩
    have := World.ownsRow.cellAt hh j (by omega)
    rw [this]
    simp [bc, hj]

/-- A row of bytes as 'zzB1EqualBytes' takes it. -/
def ByteRow (w : World) (a : Option Addr) (bs : List Nat) : Prop := bs = [] ∨ ∃ g, a = some ⟨g, 0, none⟩ ∧ g < w.heap.size ∧ ∀ j (hj : j < bs.length), w.cell? ⟨g, j, none⟩ = some (.int .u8 (bs[j] : Nat))

theorem Buf.row {w : World} {B : Nat} {v : Value} {bs : List Nat} (h : Buf w B v bs) : ∃ a c, v = .slice a bs.length c ∧ ByteRow w a bs := by
  obtain ⟨a, c, e, hr⟩ := h.at
  refine ⟨a, c, e, ?_⟩
  by_cases hn : bs = []
  · exact .inl hn
  · exact .inr (hr hn)

theorem ByteRow.mono {w w' : World} {a : Option Addr} {bs : List Nat} (h : ByteRow w a bs) (hb : Below w.heap.size w w') : ByteRow w' a bs := by
  rcases h with h | ⟨g, e, hlt, hc⟩
  · exact .inl h
  · refine .inr ⟨g, e, Nat.lt_of_lt_of_le hlt hb.size, fun j hj => ?_⟩
    rw [hb.cell (p := ⟨g, j, none⟩) hlt]
    exact hc j hj

theorem ByteRow.at {w : World} {a : Option Addr} {bs : List Nat} (h : ByteRow w a bs) (hp : 0 < bs.length) : ∃ g, a = some ⟨g, 0, none⟩ ∧ g < w.heap.size ∧ ∀ j (hj : j < bs.length), w.cell? ⟨g, j, none⟩ = some (.int .u8 (bs[j] : Nat)) := by
  rcases h with rfl | h
  · simp at hp
  · exact h

set_option maxHeartbeats 400000 in
theorem eqBytes_same (a0 a1 : Option Addr) (c0 c1 : Nat) (xs ys : List Nat) (w : World) (h0 : ByteRow w a0 xs) (h1 : ByteRow w a1 ys) (hl : xs.length ≤ 100000000) (hl1 : xs.length = ys.length) :
    Calls Try.prog 18 #[.slice a0 xs.length c0, .slice a1 ys.length c1] w fun e w' => ∃ r : Bool, e = .returned (.bool r) ∧ (r = true ↔ xs = ys) ∧ ∃ n, w' = w.drewN n := by
  have hb : ((xs.length : Int) != (ys.length : Int)) = false := by simp [hl1]
  have HL : Hid (xs.length = ys.length) := hl1
  clear hl1
  go_enter Try.func18, Try.ntmps18
  go_wp2
  go_loopw [5] (fun v wr => ∃ k : Nat, k ≤ xs.length ∧ v = .int .i64 k ∧ xs.take k = ys.take k ∧ ∃ n, wr = w.drewN n) (fun v _ => xs.length - (intOf v).toNat)
  case atStart => exact ⟨0, Nat.zero_le _, rfl, rfl, 0, rfl⟩
  case round =>
    obtain ⟨k, hk, rfl, htk, n, rfl⟩ := hrel
    have HT : Hid (xs.take k = ys.take k) := htk
    clear htk
    by_cases hlt : k < xs.length
    · have hlt1 : k < ys.length := by have := HL.out; omega
      obtain ⟨b0, rfl, hb0, hc0⟩ := h0.at (by omega)
      obtain ⟨b1, rfl, hb1, hc1⟩ := h1.at (by omega)
      have x0 := hc0 k hlt
      have y0 := hc1 k hlt1
      clear hc0 hc1
      have hi0 : (k : Int) < (xs.length : Int) := by omega
      have hi1 : (k : Int) < (ys.length : Int) := by omega
      by_cases he : xs[k] = ys[k]
      · have hq : (((xs[k] : Nat) : Int) != ((ys[k] : Nat) : Int)) = false := by simp [he]
        have HE : Hid (xs[k] = ys[k]) := he
        clear he
        go_wp2
        go_quiet (fail)
        go_wp2
        go_roundw
        case rel => exact ⟨k + 1, by omega, by go_num, take_step hlt hlt1 HT.out HE.out, _, rfl⟩
        case measure => simp [intOf]; omega
      · have hq : (((xs[k] : Nat) : Int) != ((ys[k] : Nat) : Int)) = true := by simp; omega
        have HE : Hid (¬ xs[k] = ys[k]) := he
        clear he
        go_wp2
        go_quiet (fail)
        go_wp2
        go_ret
        refine ⟨false, rfl, ?_, _, World.drewN_drewN _ _ _⟩
        simp
        intro hh
        exact HE.out (by simp [hh])
    · go_wp2
      go_ret
      refine ⟨true, rfl, ?_, n, rfl⟩
      have := HL.out
      have htk := HT.out
      rw [List.take_of_length_le (by omega), List.take_of_length_le (by omega)] at htk
      simp [htk]

/-- 'zzB1EqualBytes'. -/
theorem eqBytes18 (a0 a1 : Option Addr) (c0 c1 : Nat) (xs ys : List Nat) (w : World) (h0 : ByteRow w a0 xs) (h1 : ByteRow w a1 ys) (hl : xs.length ≤ 100000000) :
    Calls Try.prog 18 #[.slice a0 xs.length c0, .slice a1 ys.length c1] w fun e w' => ∃ r : Bool, e = .returned (.bool r) ∧ (r = true ↔ xs = ys) ∧ ∃ n, w' = w.drewN n := by
  by_cases h : xs.length = ys.length
  · exact eqBytes_same a0 a1 c0 c1 xs ys w h0 h1 hl h
  · have hb : ((xs.length : Int) != (ys.length : Int)) = true := by simp; omega
    have HN : Hid (¬ xs.length = ys.length) := h
    clear h
    go_enter Try.func18, Try.ntmps18
    go_wp2
    go_ret
    refine ⟨false, rfl, ?_, 0, rfl⟩
    simp
    intro hh
    exact HN.out (by rw [hh])
end Go.Proofs.Qxb6600367a

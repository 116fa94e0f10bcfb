import Derived.Test.Qxb6600664aBytesU
import Derived.Deep.RegionWith
namespace Go.Proofs.Qxb6600664a
open Go.RowKit
set_option linter.unusedVariables false
set_option linter.unusedSimpArgs false

/-- A process record, plain. -/
structure Rc where
  own : Nat
  waited : Nat
  kids : List ByteArray
  out : Bool

/-- One name's record. -/
structure En where
  name : ByteArray
  r : Rc

/-- The bound on a record's two numbers, kept from the walk. -/
def Small (r : Rc) : Prop := r.own < 18446744073709551616 ∧ r.waited < 18446744073709551616

/-- u is a record's value (a struct of four cells). -/
def RecV (w : World) (u : Value) (r : Rc) : Prop := ∃ v, u = .agg #[.int .u64 (r.own : Int), .int .u64 (r.waited : Int), v, .bool r.out] ∧ StrSl w v r.kids ∧ Small r

theorem RecV.mono {w w' : World} {u : Value} {r : Rc} (h : RecV w u r) (hb : Below w.heap.size w w') : RecV w' u r := by
  obtain ⟨v, e, hs, hl⟩ := h
  exact ⟨v, e, hs.mono hb, hl⟩

set_option maxHeartbeats 400000 in
/-- 'cpuToZZ': the same record. -/
theorem toZZ35 (u : Value) (r : Rc) (w : World) (h : RecV w u r) :
    Calls Try.prog 35 #[u] w fun e w' => e = .returned u ∧ Below w.heap.size w w' := by
  obtain ⟨v, rfl, ⟨a, c, rfl, hn, hr⟩, hl⟩ := h
  clear hn hr hl
  go_enter Try.func35, Try.ntmps35
  go_wp2
  go_returns
  refine ⟨rfl, ?_⟩
  go_grown

set_option maxHeartbeats 400000 in
/-- 'zzRecord': the same record. -/
theorem zzRecord42 (u : Value) (r : Rc) (w : World) (h : RecV w u r) :
    Calls Try.prog 42 #[u] w fun e w' => e = .returned u ∧ Below w.heap.size w w' := by
  obtain ⟨v, rfl, ⟨a, c, rfl, hn, hr⟩, hl⟩ := h
  clear hn hr hl
  go_enter Try.func42, Try.ntmps42
  go_wp2
  go_returns
  refine ⟨rfl, ?_⟩
  go_grown

/-- 'less'. -/
theorem less43 (a b : Nat) (w : World) (ha : a < 18446744073709551616) :
    Calls Try.prog 43 #[.int .u64 (a : Int), .int .u64 (b : Int)] w fun e w' => e = .returned (.int .u64 ((a - b : Nat) : Int)) ∧ w' = w := by
  by_cases h : (a : Int) < (b : Int)
  · go_enter Try.func43, Try.ntmps43
    go_wp2
    go_ret
    exact ⟨ret_int (by omega), rfl⟩
  · have h' : (b : Int) ≤ (a : Int) := by omega
    go_enter Try.func43, Try.ntmps43
    go_wp2
    go_ret
    exact ⟨ret_int (by omega), rfl⟩

set_option maxHeartbeats 400000 in
/-- 'cpuRise'. -/
theorem rise24 (u0 u1 : Value) (r0 r1 : Rc) (w : World) (h0 : RecV w u0 r0) (h1 : RecV w u1 r1) :
    Calls Try.prog 24 #[u0, u1] w fun e w' => e = .returned (.int .u64 ((r1.waited - r0.waited : Nat) : Int)) ∧ Below w.heap.size w w' := by
  obtain ⟨v0, rfl, ⟨a0, c0, rfl, hn0, hr0⟩, hl0⟩ := h0
  obtain ⟨v1, rfl, ⟨a1, c1, rfl, hn1, hr1⟩, hl1⟩ := h1
  have k1 := hl1.2
  clear hn0 hr0 hn1 hr1
  by_cases h : (r0.waited : Int) < (r1.waited : Int)
  · go_enter Try.func24, Try.ntmps24
    go_wp2
    go_ret
    refine ⟨ret_int (by omega), ?_⟩
    go_grown
  · go_enter Try.func24, Try.ntmps24
    go_wp2
    go_ret
    refine ⟨ret_int (by omega), ?_⟩
    go_grown

set_option maxHeartbeats 400000 in
/-- 'cpuRecBytes': some number. -/
theorem recBytes32 (u : Value) (r : Rc) (z : Int) (w : World) (h : RecV w u r) (hl : r.kids.length ≤ 9223372036854775807) :
    Calls Try.prog 32 #[u, .int .i64 z] w fun e w' => SomeInt e ∧ Below w.heap.size w w' := by
  obtain ⟨v, rfl, hs, hsm⟩ := h
  clear hsm
  by_cases hz : (1048576 : Int) < z
  · obtain ⟨a, c, rfl, hn, hr⟩ := hs
    clear hn hr
    go_enter Try.func32, Try.ntmps32
    go_wp2_with fail
    go_ret
    refine ⟨SomeInt.mk _, ?_⟩
    go_grown
  · obtain ⟨a, c, rfl, hn, hr⟩ := hs
    have hs : StrSl w (.slice a r.kids.length c) r.kids := ⟨a, c, rfl, hn, hr⟩
    clear hn hr
    go_enter Try.func32, Try.ntmps32
    go_wp2_with fail
    refine (strsBytes28 _ r.kids _ _ (hs.mono (by go_grown)) hl).mono ?_
    rintro e w1 ⟨⟨z1, rfl⟩, hw⟩
    rw [hw]
    go_wp2_with fail
    go_ret
    refine ⟨SomeInt.mk _, ?_⟩
    go_grown

set_option maxHeartbeats 400000 in
/-- 'cpuSetOf': the names as a set. -/
theorem setOf25 (v : Value) (xs : List ByteArray) (w : World) (h0 : StrSl w v xs) (hl : xs.length ≤ 1000000) :
    Calls Try.prog 25 #[v] w fun e w' => ∃ b n, e = .returned (.map (some b)) ∧ w.heap.size ≤ b ∧ n ≤ xs.length ∧ MapIs w' b n (setF xs) ∧ Below w.heap.size w w' := by
  obtain ⟨a0, c0, rfl, hn, hr⟩ := h0
  clear hn
  have hmk := makeMap_hint 37 4 Try.underlying37 xs.length
  go_enter Try.func25, Try.ntmps25
  go_wp2
  go_loopw [4] (fun v wr => ∃ k : Nat, k ≤ xs.length ∧ v = .int .i64 k ∧ MapIs wr w.heap.size k (setF (xs.take k)) ∧ Below w.heap.size w wr) (fun v _ => xs.length - (intOf v).toNat)
  case atStart => exact ⟨0, Nat.zero_le _, rfl, (MapIs.made w).congr (fun s => rfl), (Below.refl _ _).alloc (Nat.le_refl _) _⟩
  case round =>
    obtain ⟨k, hk, rfl, hmap, hbel⟩ := hrel
    by_cases hlt : k < xs.length
    · obtain ⟨b0, o0, rfl, hb0, hc0⟩ := hr.at (by omega)
      have x0 := (hbel.cell (p := ⟨b0, o0 + k, none⟩) hb0).trans (hc0 k hlt)
      clear hc0
      have hi0 : (k : Int) < (xs.length : Int) := by omega
      have hsz := hr.size hlt
      go_wp2_with (at_mapUpdate; refine wpList_store rfl _ _ _ 37 rfl 4 Try.underlying37 w.heap.size k _ rfl hmap (by unfold maxLen; omega) xs[k] (.bool true) rfl rfl hsz ?_)
      intro w1 hmap1 hg1
      have hbel1 := hbel.grown hg1 hbel.size (fun j hj => by cases hj; exact Nat.le_refl _)
      have hmap2 : MapIs w1 w.heap.size (k + 1) (setF (xs.take (k + 1))) := hmap1.congr (fun s => by rw [setF_put, List.take_succ_eq_append_getElem hlt])
      clear hmap hmap1 hg1 hbel x0
      go_wp2
      go_roundw
      case rel => exact ⟨k + 1, by omega, by go_num, hmap2, hbel1⟩
      case measure => simp [intOf]; omega
    · go_wp2
      go_ret
      refine ⟨_, k, rfl, Nat.le_refl _, hk, ?_, hbel⟩
      rw [List.take_of_length_le (by omega)] at hmap
      exact hmap
end Go.Proofs.Qxb6600664a

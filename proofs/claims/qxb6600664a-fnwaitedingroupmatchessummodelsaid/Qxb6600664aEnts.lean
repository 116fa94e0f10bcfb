import Derived.Test.Qxb6600664aClone
namespace Go.Proofs.Qxb6600664a
open Go.RowKit
set_option linter.unusedVariables false
set_option linter.unusedSimpArgs false

/-- An entry lies at ⟨b, o⟩: five cells, the fourth a slice that holds the children. -/
def EnAt (w : World) (b o : Nat) (e : En) (v : Value) : Prop :=
  w.cell? ⟨b, o, none⟩ = some (.string e.name) ∧ w.cell? ⟨b, o + 1, none⟩ = some (.int .u64 (e.r.own : Int)) ∧ w.cell? ⟨b, o + 1 + 1, none⟩ = some (.int .u64 (e.r.waited : Int)) ∧
  w.cell? ⟨b, o + 1 + 2, none⟩ = some v ∧ w.cell? ⟨b, o + 1 + 3, none⟩ = some (.bool e.r.out)

/-- What every entry is good for. -/
def FitE (e : En) : Prop := e.name.size ≤ maxLen ∧ e.r.kids.length ≤ maxLen ∧ Small e.r

def EnRow (w : World) (ao : Option Addr) (es : List En) : Prop :=
  es = [] ∨ ∃ b off, ao = some ⟨b, off, none⟩ ∧ b < w.heap.size ∧ ∀ i (h : i < es.length), ∃ v, EnAt w b (off + i * 5) es[i] v ∧ StrSl w v es[i].r.kids

/-- u is a slice that holds the entries. -/
def EnSl (w : World) (u : Value) (es : List En) : Prop := ∃ a c, u = .slice a es.length c ∧ (∀ e ∈ es, FitE e) ∧ EnRow w a es

theorem EnAt.mono {w w' : World} {b o : Nat} {e : En} {v : Value} (h : EnAt w b o e v) (hb : Below w.heap.size w w') (hlt : b < w.heap.size) : EnAt w' b o e v := by
  obtain ⟨h0, h1, h2, h3, h4⟩ := h
  unfold EnAt
  rw [hb.cell (p := ⟨b, o, none⟩) hlt, hb.cell (p := ⟨b, o + 1, none⟩) hlt, hb.cell (p := ⟨b, o + 1 + 1, none⟩) hlt, hb.cell (p := ⟨b, o + 1 + 2, none⟩) hlt, hb.cell (p := ⟨b, o + 1 + 3, none⟩) hlt]
  exact ⟨h0, h1, h2, h3, h4⟩

theorem EnRow.mono {w w' : World} {ao : Option Addr} {es : List En} (h : EnRow w ao es) (hb : Below w.heap.size w w') : EnRow w' ao es := by
  rcases h with h | ⟨b, off, e, hlt, hc⟩
  · exact .inl h
  · refine .inr ⟨b, off, e, Nat.lt_of_lt_of_le hlt hb.size, fun i hi => ?_⟩
    obtain ⟨v, h1, h2⟩ := hc i hi
    exact ⟨v, h1.mono hb hlt, h2.mono hb⟩

theorem EnSl.mono {w w' : World} {u : Value} {es : List En} (h : EnSl w u es) (hb : Below w.heap.size w w') : EnSl w' u es := by
  obtain ⟨a, c, e, hf, hr⟩ := h
  exact ⟨a, c, e, hf, hr.mono hb⟩

theorem EnRow.at {w : World} {ao : Option Addr} {es : List En} (h : EnRow w ao es) (hp : 0 < es.length) : ∃ b off, ao = some ⟨b, off, none⟩ ∧ b < w.heap.size ∧ ∀ i (h : i < es.length), ∃ v, EnAt w b (off + i * 5) es[i] v ∧ StrSl w v es[i].r.kids := by
  rcases h with rfl | h
  · simp at hp
  · exact h

theorem EnRow.none_nil {w : World} {es : List En} (h : EnRow w none es) : es = [] := by
  rcases h with h | ⟨b, off, e, _⟩
  · exact h
  · cases e

set_option maxHeartbeats 400000 in
/-- 'cpuEntriesTooLong': if it says no, the entries are few and each names few children. -/
theorem tooLong30 (u : Value) (es : List En) (w : World) (h : EnSl w u es) (hl : es.length ≤ 9223372036854775807) :
    Calls Try.prog 30 #[u] w fun e w' => IfNo e (es.length ≤ 4096 ∧ ∀ x ∈ es, x.r.kids.length ≤ 4096) ∧ w' = w := by
  obtain ⟨a, c, rfl, hf, hr⟩ := h
  clear hf
  by_cases hA : (4096 : Int) < (es.length : Int)
  · go_enter Try.func30, Try.ntmps30
    go_wp2
    go_ret
    exact ⟨IfNo.yes _, rfl⟩
  · have dA : decide ((4096 : Int) < (es.length : Int)) = false := by simpa using hA
    go_enter Try.func30, Try.ntmps30
    go_wp2
    go_loop [3] (fun v => ∃ k : Nat, k ≤ es.length ∧ v = .int .i64 k ∧ Hid (∀ i (h : i < es.length), i < k → es[i].r.kids.length ≤ 4096)) (fun v => es.length - (intOf v).toNat)
    case atStart => exact ⟨0, Nat.zero_le _, rfl, fun i _ h => absurd h (Nat.not_lt_zero _)⟩
    case round =>
      obtain ⟨k, hk, rfl, HK⟩ := hrel
      by_cases hlt : k < es.length
      · obtain ⟨b0, o0, rfl, hb0, hc0⟩ := hr.at (by omega)
        obtain ⟨v, ⟨x0, x1, x2, x3, x4⟩, ⟨a1, c1, rfl, hn1, hr1⟩⟩ := hc0 k hlt
        clear hc0 hn1 hr1
        have hi0 : (k : Int) < (es.length : Int) := by omega
        by_cases hB : (4096 : Int) < (es[k].r.kids.length : Int)
        · go_wp2
          go_ret
          exact ⟨IfNo.yes _, rfl⟩
        · go_wp2
          go_round
          case rel =>
            refine ⟨k + 1, by omega, by go_num, fun i hi hik => ?_⟩
            by_cases e : i = k
            · subst e; omega
            · exact HK.out i hi (by omega)
          case measure => simp [intOf]; omega
      · go_wp2
        go_ret
        refine ⟨IfNo.mk _ ⟨by omega, fun x hx => ?_⟩, rfl⟩
        obtain ⟨i, hi, rfl⟩ := List.getElem_of_mem hx
        exact HK.out i hi (by omega)

set_option maxHeartbeats 1000000 in
/-- 'cpuEntriesBytes': some number. -/
theorem entriesBytes31 (u : Value) (es : List En) (z : Int) (w : World) (h : EnSl w u es) (hl : es.length ≤ 9223372036854775807) :
    Calls Try.prog 31 #[u, .int .i64 z] w fun e w' => SomeInt e ∧ Below w.heap.size w w' := by
  obtain ⟨a, c, rfl, hf, hr⟩ := h
  have HF := hide hf
  clear hf
  go_enter Try.func31, Try.ntmps31
  go_wp2
  go_loopw [1, 5] (fun u v wr => ∃ (k : Nat) (y : Int), k ≤ es.length ∧ v = .int .i64 k ∧ u = .int .i64 y ∧ Below w.heap.size w wr) (fun _ v _ => es.length - (intOf v).toNat)
  case atStart => exact ⟨0, z, Nat.zero_le _, rfl, rfl, Below.refl _ _⟩
  case round =>
    obtain ⟨k, y, hk, rfl, rfl, hbel⟩ := hrel
    by_cases hlt : k < es.length
    · have hr' := hr.mono hbel
      obtain ⟨b0, o0, rfl, hb0, hc0⟩ := hr'.at (by omega)
      obtain ⟨v, ⟨x0, x1, x2, x3, x4⟩, hv⟩ := hc0 k hlt
      clear hc0 hr'
      have hi0 : (k : Int) < (es.length : Int) := by omega
      have hi00 : (0 : Int) ≤ (k : Int) := by omega
      obtain ⟨f1, f2, f3⟩ := HF.out es[k] (List.getElem_mem hlt)
      have F2 : Hid (es[k].r.kids.length ≤ 9223372036854775807) := f2
      have RV : Hid (RecV wr (.agg #[.int .u64 (es[k].r.own : Int), .int .u64 (es[k].r.waited : Int), v, .bool es[k].r.out]) es[k].r) := ⟨v, rfl, hv, f3⟩
      clear f1 f2 f3
      obtain ⟨a1, c1, rfl, hn1, hr1⟩ := hv
      clear hn1 hr1
      by_cases hA : (1048576 : Int) < y
      · go_wp2
        go_ret
        exact ⟨SomeInt.mk _, hbel⟩
      · by_cases hB : (1048576 : Int) < (es[k].name.size : Int)
        · go_wp2
          go_ret
          exact ⟨SomeInt.mk _, hbel⟩
        · go_wp2
          go_region_held3 (fun w' => w'.cell? ⟨b0, o0 + k * 5, none⟩ = some (.string es[k].name) ∧ w'.cell? ⟨b0, o0 + k * 5 + 1, none⟩ = some (.int .u64 (es[k].r.own : Int)) ∧ w'.cell? ⟨b0, o0 + k * 5 + 1 + 1, none⟩ = some (.int .u64 (es[k].r.waited : Int)) ∧ w'.cell? ⟨b0, o0 + k * 5 + 1 + 2, none⟩ = some (.slice a1 es[k].r.kids.length c1) ∧ w'.cell? ⟨b0, o0 + k * 5 + 1 + 3, none⟩ = some (.bool es[k].r.out)) (go_keep) ((go_at_call 32; refine (recBytes32 _ es[k].r _ _ (RV.out.mono (by go_grown)) F2.out).mono ?_; rintro e w1 ⟨⟨z1, rfl⟩, q1⟩; obtain ⟨y0, y1, y2, y3, y4⟩ := EnAt.mono (w := wr.drew) ⟨x0, x1, x2, x3, x4⟩ q1 hb0; have HQ := hide q1; clear q1))
          go_wp2
          go_roundw
          case rel => exact ⟨k + 1, _, by omega, by go_num, rfl, hbel.drew.trans (HQ.out.mono hbel.size)⟩
          case measure => simp [intOf]; omega
    · go_wp2
      go_ret
      exact ⟨SomeInt.mk _, hbel⟩

theorem info41 : (Try.prog.info? 41).map (fun i => (i.zero, i.size, i.bytes)) = some (some (.agg #[.string ByteArray.empty, .int .u64 0, .int .u64 0, .slice none 0 0, .bool false]), 5, 64) := by kernel_rfl
theorem info65 : (Try.prog.info? 65).map (fun i => (i.zero, i.size, i.bytes)) = some (some (.agg #[.string ByteArray.empty, .int .u64 0, .int .u64 0, .slice none 0 0, .bool false]), 5, 64) := by kernel_rfl

/-- What 'make([]Entry, n)' lays. -/
def zeros (n : Nat) : Array Value := madeCells #[.string ByteArray.empty, .int .u64 0, .int .u64 0, .slice none 0 0, .bool false] (n * 5)

theorem make28 (n : Nat) (hn : n ≤ 1000000) (w : World) : (Instr.makeSlice 28 (.int .i64 (n : Int)) (.int .i64 (n : Int))).run Try.prog w = .ok (.slice (some ⟨w.heap.size, 0, none⟩) n n) (w.alloc (.cells (zeros n) 41)) := by
  obtain ⟨i0, hi, hz0, hz1, hz2⟩ := info_parts info41
  have hr := run_make (P := Try.prog) w 28 41 i0 _ Try.underlying28 hi hz0 .i64 .i64 n n (by omega) (Int.le_refl _) (by rw [hz2]; omega) (by omega)
  rw [hz1] at hr
  simpa [Value.cells, zeros] using hr

theorem make46 (n : Nat) (hn : n ≤ 1000000) (w : World) : (Instr.makeSlice 46 (.int .i64 (n : Int)) (.int .i64 (n : Int))).run Try.prog w = .ok (.slice (some ⟨w.heap.size, 0, none⟩) n n) (w.alloc (.cells (zeros n) 65)) := by
  obtain ⟨i0, hi, hz0, hz1, hz2⟩ := info_parts info65
  have hr := run_make (P := Try.prog) w 46 65 i0 _ Try.underlying46 hi hz0 .i64 .i64 n n (by omega) (Int.le_refl _) (by rw [hz2]; omega) (by omega)
  rw [hz1] at hr
  simpa [Value.cells, zeros] using hr

theorem zeros_row (w : World) (n : Nat) (t : TypeId) : (w.alloc (.cells (zeros n) t)).rowIs w.heap.size t (n * 5) (fun j => ((zeros n)[j]?).getD undef) := by
  have h := World.rowIs_alloc w (zeros n) t (fun j => ((zeros n)[j]?).getD undef) (fun i hi => by simp [hi])
  rw [zeros, size_madeCells] at h
  exact h

/-- The first k entries have been laid into the cells f; 'V i': where the children of entry i lie. -/
def LaidE (f : Nat → Value) (es : List En) (V : Nat → Value) (k : Nat) : Prop := ∀ i (h : i < es.length), i < k →
  f (i * 5) = .string es[i].name ∧ f (i * 5 + 1) = .int .u64 (es[i].r.own : Int) ∧ f (i * 5 + 2) = .int .u64 (es[i].r.waited : Int) ∧ f (i * 5 + 3) = V i ∧ f (i * 5 + 4) = .bool es[i].r.out

/-- One entry more. -/
def layE (f : Nat → Value) (es : List En) (k : Nat) (h : k < es.length) (v : Value) : Nat → Value := fun j =>
  if j = k * 5 + 4 then .bool es[k].r.out else (if j = k * 5 + 3 then v else (if j = k * 5 + 2 then .int .u64 (es[k].r.waited : Int) else (if j = k * 5 + 1 then .int .u64 (es[k].r.own : Int) else (if j = k * 5 then .string es[k].name else f j))))

theorem laidE_step {f : Nat → Value} {es : List En} {V : Nat → Value} {k : Nat} (hk : k < es.length) (h : LaidE f es V k) (v : Value) : LaidE (layE f es k hk v) es (fun i => if i = k then v else V i) (k + 1) := by
  intro i hi hik
  unfold layE
  by_cases e : i = k
  · subst e
    refine ⟨?_, ?_, ?_, ?_, ?_⟩
    · rw [if_neg (by omega), if_neg (by omega), if_neg (by omega), if_neg (by omega), if_pos rfl]
    · rw [if_neg (by omega), if_neg (by omega), if_neg (by omega), if_pos rfl]
    · rw [if_neg (by omega), if_neg (by omega), if_pos rfl]
    · rw [if_neg (by omega), if_pos rfl]; simp
    · rw [if_pos rfl]
  · obtain ⟨l0, l1, l2, l3, l4⟩ := h i hi (by omega)
    refine ⟨?_, ?_, ?_, ?_, ?_⟩
    · rw [if_neg (by omega), if_neg (by omega), if_neg (by omega), if_neg (by omega), if_neg (by omega)]; exact l0
    · rw [if_neg (by omega), if_neg (by omega), if_neg (by omega), if_neg (by omega), if_neg (by omega)]; exact l1
    · rw [if_neg (by omega), if_neg (by omega), if_neg (by omega), if_neg (by omega), if_neg (by omega)]; exact l2
    · rw [if_neg (by omega), if_neg (by omega), if_neg (by omega), if_neg (by omega), if_neg (by omega)]; simp only [if_neg e]; exact l3
    · rw [if_neg (by omega), if_neg (by omega), if_neg (by omega), if_neg (by omega), if_neg (by omega)]; exact l4

theorem laidE_at {w : World} {g : Nat} {t : TypeId} {f : Nat → Value} {es : List En} {V : Nat → Value} (hrow : w.rowIs g t (es.length * 5) f) (hl : LaidE f es V es.length) {i : Nat} (hi : i < es.length) : EnAt w g (0 + i * 5) es[i] (V i) := by
  obtain ⟨l0, l1, l2, l3, l4⟩ := hl i hi hi
  unfold EnAt
  rw [Nat.zero_add, ← l0, ← l1, ← l2, ← l3, ← l4, Nat.add_assoc, Nat.add_assoc, Nat.add_assoc]
  exact ⟨hrow.cell (by omega), hrow.cell (by omega), hrow.cell (by omega), hrow.cell (by omega), hrow.cell (by omega)⟩

end Go.Proofs.Qxb6600664a

import Derived.Test.Qxb6600664aTooBig
namespace Go.Proofs.Qxb6600664a
open Go.RowKit
set_option linter.unusedVariables false
set_option linter.unusedSimpArgs false

/-- Block b is a row of cells none of which is a string: no row of names, no row of entries lies in it. -/
def NoStr (w : World) (b : Nat) : Prop := ∃ C t m, w.heap[b]? = some (.cells C t m) ∧ ∀ (o : Nat) (v : Value), C[o]? = some v → ∀ s, v ≠ .string s

theorem NoStr.cell {w : World} {b : Nat} (h : NoStr w b) (o : Nat) (s : ByteArray) : w.cell? ⟨b, o, none⟩ ≠ some (.string s) := by
  obtain ⟨C, t, m, hb, hC⟩ := h
  intro hh
  unfold World.cell? at hh
  simp [hb] at hh
  exact hC o _ hh s rfl

theorem NoStr.of_block {w w' : World} {b : Nat} (h : NoStr w b) (e : w'.heap[b]? = w.heap[b]?) : NoStr w' b := by
  obtain ⟨C, t, m, hb, hC⟩ := h
  exact ⟨C, t, m, e.trans hb, hC⟩

theorem NoStr.lt {w : World} {b : Nat} (h : NoStr w b) : b < w.heap.size := by
  obtain ⟨C, t, m, hb, _⟩ := h
  exact (Array.getElem?_eq_some_iff.1 hb).1

theorem NoStr.mono {w w' : World} {b : Nat} (h : NoStr w b) (hb : Below w.heap.size w w') : NoStr w' b := h.of_block (hb.block b h.lt)

theorem NoStr.set {w : World} {b : Nat} (h : NoStr w b) (g o : Nat) {u : Value} (hu : ∀ s, u ≠ .string s) : NoStr (w.setCell ⟨g, o, none⟩ u) b := by
  by_cases e : b = g
  · subst e
    obtain ⟨C, t, m, hb, hC⟩ := h
    refine ⟨C.setIfInBounds o u, t, m, ?_, fun j v hj => ?_⟩
    · simp [World.setCell, Array.getElem?_modify, hb]
    · rw [Array.getElem?_setIfInBounds] at hj
      split at hj
      · split at hj
        · cases hj; exact hu
        · cases hj
      · exact hC j v hj
  · exact h.of_block (Below.heap_setCell _ _ _ _ e)

theorem StrSl.setNo {w : World} {v : Value} {xs : List ByteArray} (h : StrSl w v xs) {g : Nat} (hg : NoStr w g) (o : Nat) (u : Value) : StrSl (w.setCell ⟨g, o, none⟩ u) v xs := by
  obtain ⟨a, c, rfl, hn, h1, h2⟩ := h
  refine ⟨a, c, rfl, hn, h1, ?_⟩
  by_cases hx : xs = []
  · exact .inl hx
  · rcases h2 with h | ⟨b, off, rfl, hlt, hc⟩
    · exact .inl h
    · have hp : 0 < xs.length := List.length_pos_iff.2 hx
      have hne : b ≠ g := fun e => by
        subst e
        exact hg.cell (off + 0) _ (hc 0 hp)
      refine .inr ⟨b, off, rfl, by simpa using hlt, fun i hi => ?_⟩
      rw [World.cell?_of_block (w := w) (a := ⟨b, off + i, none⟩) (Below.heap_setCell _ _ _ _ hne)]
      exact hc i hi

theorem EnSl.setNo {w : World} {v : Value} {es : List En} (h : EnSl w v es) {g : Nat} (hg : NoStr w g) (o : Nat) (u : Value) : EnSl (w.setCell ⟨g, o, none⟩ u) v es := by
  obtain ⟨a, c, rfl, h1, h2⟩ := h
  refine ⟨a, c, rfl, h1, ?_⟩
  by_cases hx : es = []
  · exact .inl hx
  · rcases h2 with h | ⟨b, off, rfl, hlt, hc⟩
    · exact .inl h
    · have hp : 0 < es.length := List.length_pos_iff.2 hx
      have hne : b ≠ g := fun e => by
        subst e
        obtain ⟨v0, h0, _⟩ := hc 0 hp
        exact hg.cell _ _ h0.1
      refine .inr ⟨b, off, rfl, by simpa using hlt, fun i hi => ?_⟩
      obtain ⟨v0, ⟨g0, g1, g2, g3, g4⟩, hs⟩ := hc i hi
      have k : ∀ j, (w.setCell ⟨g, o, none⟩ u).cell? ⟨b, j, none⟩ = w.cell? ⟨b, j, none⟩ := fun j => World.cell?_of_block (w := w) (a := ⟨b, j, none⟩) (Below.heap_setCell _ _ _ _ hne)
      refine ⟨v0, ?_, hs.setNo hg o u⟩
      unfold EnAt
      rw [k, k, k, k, k]
      exact ⟨g0, g1, g2, g3, g4⟩

/-- A record stored into a box of four cells. -/
def put4 (w : World) (g : Nat) (y0 y1 y2 y3 : Value) : World := (((w.setCell ⟨g, 0, none⟩ y0).setCell ⟨g, 1, none⟩ y1).setCell ⟨g, 2, none⟩ y2).setCell ⟨g, 3, none⟩ y3

theorem put4_no {w : World} {g b : Nat} {y0 y1 y2 y3 : Value} (h : NoStr w b) (h0 : ∀ s, y0 ≠ .string s) (h1 : ∀ s, y1 ≠ .string s) (h2 : ∀ s, y2 ≠ .string s) (h3 : ∀ s, y3 ≠ .string s) : NoStr (put4 w g y0 y1 y2 y3) b :=
  (((h.set g 0 h0).set g 1 h1).set g 2 h2).set g 3 h3

theorem put4_str {w : World} {g : Nat} {y0 y1 y2 y3 : Value} (hg : NoStr w g) (h0 : ∀ s, y0 ≠ .string s) (h1 : ∀ s, y1 ≠ .string s) (h2 : ∀ s, y2 ≠ .string s) {v : Value} {xs : List ByteArray} (h : StrSl w v xs) : StrSl (put4 w g y0 y1 y2 y3) v xs :=
  (((h.setNo hg 0 y0).setNo (hg.set g 0 h0) 1 y1).setNo ((hg.set g 0 h0).set g 1 h1) 2 y2).setNo (((hg.set g 0 h0).set g 1 h1).set g 2 h2) 3 y3

theorem put4_en {w : World} {g : Nat} {y0 y1 y2 y3 : Value} (hg : NoStr w g) (h0 : ∀ s, y0 ≠ .string s) (h1 : ∀ s, y1 ≠ .string s) (h2 : ∀ s, y2 ≠ .string s) {v : Value} {es : List En} (h : EnSl w v es) : EnSl (put4 w g y0 y1 y2 y3) v es :=
  (((h.setNo hg 0 y0).setNo (hg.set g 0 h0) 1 y1).setNo ((hg.set g 0 h0).set g 1 h1) 2 y2).setNo (((hg.set g 0 h0).set g 1 h1).set g 2 h2) 3 y3

theorem put4_below {B : Nat} {a w : World} {g : Nat} {y0 y1 y2 y3 : Value} (h : Below B a w) (hg : B ≤ g) : Below B a (put4 w g y0 y1 y2 y3) :=
  (((h.setCell (p := ⟨g, 0, none⟩) hg _).setCell (p := ⟨g, 1, none⟩) hg _).setCell (p := ⟨g, 2, none⟩) hg _).setCell (p := ⟨g, 3, none⟩) hg _

/-- The box holds x0 .. x3. -/
def Box (w : World) (g : Nat) (x0 x1 x2 x3 : Value) : Prop :=
  (w.cell? ⟨g, 0, none⟩ = some x0 ∧ w.cell? ⟨g, 1, none⟩ = some x1 ∧ w.cell? ⟨g, 2, none⟩ = some x2 ∧ w.cell? ⟨g, 3, none⟩ = some x3) ∧
  (w.frozen? ⟨g, 0, none⟩ = false ∧ w.frozen? ⟨g, 1, none⟩ = false ∧ w.frozen? ⟨g, 2, none⟩ = false ∧ w.frozen? ⟨g, 3, none⟩ = false) ∧ g < w.heap.size

theorem Box.mono {w w' : World} {g : Nat} {x0 x1 x2 x3 : Value} (h : Box w g x0 x1 x2 x3) (hb : Below w.heap.size w w') : Box w' g x0 x1 x2 x3 := by
  obtain ⟨⟨a0, a1, a2, a3⟩, ⟨f0, f1, f2, f3⟩, hlt⟩ := h
  have k : ∀ o, w'.cell? ⟨g, o, none⟩ = w.cell? ⟨g, o, none⟩ := fun o => hb.cell (p := ⟨g, o, none⟩) hlt
  have f : ∀ o, w'.frozen? ⟨g, o, none⟩ = w.frozen? ⟨g, o, none⟩ := fun o => hb.frozen (p := ⟨g, o, none⟩) hlt
  unfold Box
  rw [k, k, k, k, f, f, f, f]
  exact ⟨⟨a0, a1, a2, a3⟩, ⟨f0, f1, f2, f3⟩, Nat.lt_of_lt_of_le hlt hb.size⟩

theorem Box.put_other {w : World} {g m : Nat} {x0 x1 x2 x3 y0 y1 y2 y3 : Value} (h : Box w m x0 x1 x2 x3) (hne : m ≠ g) : Box (put4 w g y0 y1 y2 y3) m x0 x1 x2 x3 := by
  have e : (put4 w g y0 y1 y2 y3).heap[m]? = w.heap[m]? := by
    unfold put4
    rw [Below.heap_setCell _ _ _ _ hne, Below.heap_setCell _ _ _ _ hne, Below.heap_setCell _ _ _ _ hne, Below.heap_setCell _ _ _ _ hne]
  obtain ⟨⟨a0, a1, a2, a3⟩, ⟨f0, f1, f2, f3⟩, hlt⟩ := h
  have k : ∀ o, (put4 w g y0 y1 y2 y3).cell? ⟨m, o, none⟩ = w.cell? ⟨m, o, none⟩ := fun o => World.cell?_of_block (w := w) (a := ⟨m, o, none⟩) e
  have f : ∀ o, (put4 w g y0 y1 y2 y3).frozen? ⟨m, o, none⟩ = w.frozen? ⟨m, o, none⟩ := fun o => World.frozen?_of_block (w := w) (a := ⟨m, o, none⟩) e
  unfold Box
  rw [k, k, k, k, f, f, f, f]
  refine ⟨⟨a0, a1, a2, a3⟩, ⟨f0, f1, f2, f3⟩, ?_⟩
  unfold put4
  simpa using hlt

theorem Box.put_same {w : World} {g : Nat} {x0 x1 x2 x3 y0 y1 y2 y3 : Value} (h : Box w g x0 x1 x2 x3) : Box (put4 w g y0 y1 y2 y3) g y0 y1 y2 y3 := by
  obtain ⟨⟨a0, a1, a2, a3⟩, ⟨f0, f1, f2, f3⟩, hlt⟩ := h
  unfold Box put4
  refine ⟨⟨?_, ?_, ?_, ?_⟩, ⟨?_, ?_, ?_, ?_⟩, by simpa using hlt⟩
  all_goals simp [go_sem, a0, a1, a2, a3, f0, f1, f2, f3]

/-- The two boxes that a function with two struct parameters lays first. -/
theorem boxes_new (w : World) (x0 x1 x2 x3 y0 y1 y2 y3 : Value) (t t' : TypeId) (hx : ∀ v ∈ [x0, x1, x2, x3], ∀ s, v ≠ .string s) (hy : ∀ v ∈ [y0, y1, y2, y3], ∀ s, v ≠ .string s) :
    Box ((w.alloc (.cells #[x0, x1, x2, x3] t)).alloc (.cells #[y0, y1, y2, y3] t')) w.heap.size x0 x1 x2 x3 ∧ Box ((w.alloc (.cells #[x0, x1, x2, x3] t)).alloc (.cells #[y0, y1, y2, y3] t')) (w.heap.size + 1) y0 y1 y2 y3 ∧
    NoStr ((w.alloc (.cells #[x0, x1, x2, x3] t)).alloc (.cells #[y0, y1, y2, y3] t')) w.heap.size ∧ NoStr ((w.alloc (.cells #[x0, x1, x2, x3] t)).alloc (.cells #[y0, y1, y2, y3] t')) (w.heap.size + 1) := by
  have h1 : ((w.alloc (.cells #[x0, x1, x2, x3] t)).alloc (.cells #[y0, y1, y2, y3] t')).heap[w.heap.size]? = some (.cells #[x0, x1, x2, x3] t) := by
    rw [Below.heap_alloc _ _ _ (by simp)]
    show (w.heap.push _)[w.heap.size]? = _
    simp
  have h2 : ((w.alloc (.cells #[x0, x1, x2, x3] t)).alloc (.cells #[y0, y1, y2, y3] t')).heap[w.heap.size + 1]? = some (.cells #[y0, y1, y2, y3] t') := by
    have : w.heap.size + 1 = (w.alloc (.cells #[x0, x1, x2, x3] t)).heap.size := by simp
    rw [this]
    exact Array.getElem?_push_size
  refine ⟨⟨⟨?_, ?_, ?_, ?_⟩, ⟨?_, ?_, ?_, ?_⟩, ?_⟩, ⟨⟨?_, ?_, ?_, ?_⟩, ⟨?_, ?_, ?_, ?_⟩, ?_⟩, ⟨_, _, _, h1, fun o v hv => ?_⟩, ⟨_, _, _, h2, fun o v hv => ?_⟩⟩
  case refine_19 => exact hx v (by have := Array.mem_of_getElem? hv; simpa using this)
  case refine_20 => exact hy v (by have := Array.mem_of_getElem? hv; simpa using this)
  all_goals first
    | (simp; done)
    | (simp; omega)
end Go.Proofs.Qxb6600664a

import Derived.Test.Qxb6600664aProg
import Derived.WalkKit
import Derived.ProofKit
import Derived.Handy
import Derived.WalkSpells
import Derived.Deep.QuietTactic
import Derived.Deep.OwnRows
import Derived.BigQuiet
import Derived.BigRegion
import Derived.Maps.OwnSet
import Derived.Maps.OwnOps
import Derived.StringKeys
namespace Go.Proofs.Qxb6600664a
open Go.RowKit
set_option linter.unusedVariables false
set_option linter.unusedSimpArgs false

theorem ret_int {k : IntKind} {a b : Int} (h : a = b) : Ending.returned (.int k a) = .returned (.int k b) := by rw [h]
theorem val_int {k : IntKind} {a b : Int} (h : a = b) : Value.int k a = .int k b := by rw [h]
/-- The call returned some bool. -/
def SomeBool (e : Ending) : Prop := ∃ r : Bool, e = .returned (.bool r)
theorem SomeBool.mk (r : Bool) : SomeBool (.returned (.bool r)) := ⟨r, rfl⟩
theorem hide {p : Prop} (h : p) : Hid p := h
theorem below_drewN (B : Nat) (w : World) (n : Nat) : Below B w (w.drewN n) := ⟨rfl, rfl, rfl, Nat.le_refl _, fun _ _ => rfl⟩
theorem below_up {B : Nat} {a b c : World} (h : Below B a b) (hB : B ≤ b.heap.size) (k : Below b.heap.size b c) : Below B a c := h.trans (k.mono hB)

theorem take_step {α : Type} {xs ys : List α} {k : Nat} (h0 : k < xs.length) (h1 : k < ys.length) (ht : xs.take k = ys.take k) (he : xs[k] = ys[k]) : xs.take (k + 1) = ys.take (k + 1) := by
  rw [List.take_succ_eq_append_getElem h0, List.take_succ_eq_append_getElem h1, ht, he]

theorem bytes_ext {a b : ByteArray} (h : a.toList = b.toList) : a = b := by
  rw [ByteArray.toList_eq, ByteArray.toList_eq] at h
  obtain ⟨⟨x⟩⟩ := a
  obtain ⟨⟨y⟩⟩ := b
  simp at h
  simp [h]

/-! ### Rows of strings -/

/-- The strings lie at 'ao', a cell each (nothing is said of the address of none). -/
def StrRow (w : World) (ao : Option Addr) (xs : List ByteArray) : Prop :=
  (∀ x ∈ xs, x.size ≤ maxLen) ∧ (xs = [] ∨ ∃ b off, ao = some ⟨b, off, none⟩ ∧ b < w.heap.size ∧ ∀ i (h : i < xs.length), w.cell? ⟨b, off + i, none⟩ = some (.string xs[i]))

theorem StrRow.mono {w w' : World} {ao : Option Addr} {xs : List ByteArray} (h : StrRow w ao xs) (hb : Below w.heap.size w w') : StrRow w' ao xs := by
  refine ⟨h.1, ?_⟩
  rcases h.2 with h | ⟨b, off, e, hlt, hc⟩
  · exact .inl h
  · refine .inr ⟨b, off, e, Nat.lt_of_lt_of_le hlt hb.size, fun i hi => ?_⟩
    rw [hb.cell (p := ⟨b, off + i, none⟩) hlt]
    exact hc i hi

theorem StrRow.at {w : World} {ao : Option Addr} {xs : List ByteArray} (h : StrRow w ao xs) (hp : 0 < xs.length) : ∃ b off, ao = some ⟨b, off, none⟩ ∧ b < w.heap.size ∧ ∀ i (h : i < xs.length), w.cell? ⟨b, off + i, none⟩ = some (.string xs[i]) := by
  rcases h.2 with rfl | h
  · simp at hp
  · exact h

theorem StrRow.size {w : World} {ao : Option Addr} {xs : List ByteArray} (h : StrRow w ao xs) {k : Nat} (hk : k < xs.length) : xs[k].size ≤ maxLen := h.1 _ (List.getElem_mem hk)

theorem StrRow.nil (w : World) (ao : Option Addr) : StrRow w ao [] := ⟨by simp, .inl rfl⟩

theorem StrRow.none_nil {w : World} {xs : List ByteArray} (h : StrRow w none xs) : xs = [] := by
  rcases h.2 with h | ⟨b, off, e, _⟩
  · exact h
  · cases e

/-- v is a slice that holds the strings xs. -/
def StrSl (w : World) (v : Value) (xs : List ByteArray) : Prop := ∃ a c, v = .slice a xs.length c ∧ ((a = none → c = 0) ∧ xs.length ≤ c) ∧ StrRow w a xs

theorem StrSl.mono {w w' : World} {v : Value} {xs : List ByteArray} (h : StrSl w v xs) (hb : Below w.heap.size w w') : StrSl w' v xs := by
  obtain ⟨a, c, e, hn, hr⟩ := h
  exact ⟨a, c, e, hn, hr.mono hb⟩

theorem StrSl.drewN {w : World} {v : Value} {xs : List ByteArray} (h : StrSl w v xs) (n : Nat) : StrSl (w.drewN n) v xs := h.mono (below_drewN _ _ _)

/-- A store into another block. -/
theorem StrSl.setCell {w : World} {v : Value} {xs : List ByteArray} (h : StrSl w v xs) {p : Addr} (hne : v.ownBlock ≠ some p.block) (u : Value) : StrSl (w.setCell p u) v xs := by
  obtain ⟨a, c, rfl, hn, h1, h2⟩ := h
  refine ⟨a, c, rfl, hn, h1, ?_⟩
  rcases h2 with h | ⟨b, off, rfl, hlt, hc⟩
  · exact .inl h
  · refine .inr ⟨b, off, rfl, by simpa using hlt, fun i hi => ?_⟩
    have hb : b ≠ p.block := fun e => hne (by simp [Value.ownBlock, e])
    rw [World.cell?_of_block (w := w) (a := ⟨b, off + i, none⟩) (Below.heap_setCell _ _ _ _ hb)]
    exact hc i hi

theorem StrSl.nil (w : World) : StrSl w (.slice none 0 0) [] := ⟨none, 0, rfl, ⟨fun _ => rfl, Nat.le_refl _⟩, StrRow.nil _ _⟩

theorem StrSl.sizes {w : World} {v : Value} {xs : List ByteArray} (h : StrSl w v xs) : ∀ x ∈ xs, x.size ≤ maxLen := by
  obtain ⟨a, c, e, hn, hr⟩ := h
  exact hr.1

/-! ### Maps keyed by strings: what a block holds, as a function -/

def rawElem : Value → Option (DataW Value × List MemPlace) := fun v => some (.held v, [])
def lit (s : ByteArray) : Lit := .string s.data.toList

theorem keyLit (s : ByteArray) : WideAt.IsKeyLit (lit s) := trivial

theorem lit_inj {s t : ByteArray} (h : lit s = lit t) : s = t := by
  unfold lit at h
  obtain ⟨⟨x⟩⟩ := s
  obtain ⟨⟨y⟩⟩ := t
  simp at h
  simp [h]

/-- Block b is a map of at most n entries that holds f. -/
def MapIs (w : World) (b n : Nat) (f : ByteArray → Option Value) : Prop :=
  ∃ D : DataW Value, w.ownsMap Try.prog 9 rawElem b n D ∧ (∀ s, f s = none → Maps.has D (lit s) = false) ∧ ∀ s v, f s = some v → (∀ zd, D.atKey (lit s) zd = .held v) ∧ Maps.has D (lit s) = true

theorem keyed9 : Maps.Keyed Try.prog 9 := Maps.string_keyed Try.underlying9

theorem MapIs.lt {w : World} {b n : Nat} {f : ByteArray → Option Value} (h : MapIs w b n f) : b < w.heap.size := by
  obtain ⟨D, ho, _⟩ := h
  exact ho.lt

theorem MapIs.of_block {w w' : World} {b n : Nat} {f : ByteArray → Option Value} (h : MapIs w b n f) (e : w'.heap[b]? = w.heap[b]?) : MapIs w' b n f := by
  obtain ⟨D, ⟨es, clock, hb, r⟩, h2⟩ := h
  exact ⟨D, ⟨es, clock, e.trans hb, r⟩, h2⟩

theorem MapIs.mono {w w' : World} {b n : Nat} {f : ByteArray → Option Value} (h : MapIs w b n f) (hb : Below w.heap.size w w') : MapIs w' b n f := h.of_block (hb.block b h.lt)

theorem MapIs.kept {w w' : World} {b n : Nat} {f : ByteArray → Option Value} {row : Option Nat} (h : MapIs w b n f) (hg : w.grownBy w' row) (hne : some b ≠ row) : MapIs w' b n f := h.of_block (hg.block b h.lt hne)

theorem MapIs.alloc {w : World} {b n : Nat} {f : ByteArray → Option Value} (h : MapIs w b n f) (o : Obj) : MapIs (w.alloc o) b n f := h.kept (World.grownBy_alloc w o none) (by simp)

theorem MapIs.congr {w : World} {b n : Nat} {f g : ByteArray → Option Value} (h : MapIs w b n f) (e : ∀ s, f s = g s) : MapIs w b n g := by
  rw [show g = f from (funext e).symm]
  exact h

theorem MapIs.more {w : World} {b n n' : Nat} {f : ByteArray → Option Value} (h : MapIs w b n f) (hn : n ≤ n') : MapIs w b n' f := by
  obtain ⟨D, ho, h2⟩ := h
  exact ⟨D, ho.mono hn, h2⟩

theorem MapIs.made (w : World) : MapIs (w.alloc (.map #[] 0)) w.heap.size 0 (fun _ => none) :=
  ⟨.map [], World.ownsMap_made w _ _ _, fun s _ => rfl, fun s v h => by cases h⟩

theorem MapIs.look {w : World} {b n : Nat} {f : ByteArray → Option Value} (h : MapIs w b n f) {t e : TypeId} (ht : Try.prog.underlying t = some (.map 9 e)) {z : Value} (hz : (zeroValue e).run Try.prog w = .ok z w) {s : ByteArray} (hs : s.size ≤ maxLen) :
    (Instr.lookup t (.map (some b)) (.string s) false).run Try.prog w = .ok ((f s).getD z) w := by
  obtain ⟨D, ho, h1, h2⟩ := h
  obtain ⟨v, ps, hrun, hv⟩ := ho.lookup keyed9 ht hz (zd := .held z) (zp := []) rfl (WideMaps.keyOf_string_mk Try.underlying9 hs)
  rw [hrun]
  simp only [rawElem, Option.some.injEq, Prod.mk.injEq] at hv
  cases hf : f s with
  | none =>
    have := Maps.atKey_of_not_has (h1 s hf) (.held z)
    unfold lit at this
    rw [this] at hv
    have hv1 := hv.1
    simp at hv1
    simp [hv1]
  | some u =>
    have := (h2 s u hf).1 (.held z)
    unfold lit at this
    rw [this] at hv
    have hv1 := hv.1
    simp at hv1
    simp [hv1]

theorem MapIs.look_ok {w : World} {b n : Nat} {f : ByteArray → Option Value} (h : MapIs w b n f) {t e : TypeId} (ht : Try.prog.underlying t = some (.map 9 e)) {z : Value} (hz : (zeroValue e).run Try.prog w = .ok z w) {s : ByteArray} (hs : s.size ≤ maxLen) :
    (Instr.lookup t (.map (some b)) (.string s) true).run Try.prog w = .ok (.tuple #[(f s).getD z, .bool (f s).isSome]) w := by
  obtain ⟨D, ho, h1, h2⟩ := h
  obtain ⟨v, ps, hrun, hv⟩ := ho.look_ok keyed9 ht hz (zd := .held z) (zp := []) rfl (WideMaps.keyOf_string_mk Try.underlying9 hs)
  rw [hrun]
  simp only [rawElem, Option.some.injEq, Prod.mk.injEq] at hv
  cases hf : f s with
  | none =>
    have hh := h1 s hf
    have := Maps.atKey_of_not_has hh (.held z)
    unfold lit at this hh
    rw [this] at hv
    have hv1 := hv.1
    simp at hv1
    simp [hv1, hh]
  | some u =>
    have := (h2 s u hf).1 (.held z)
    have hh := (h2 s u hf).2
    unfold lit at this hh
    rw [this] at hv
    have hv1 := hv.1
    simp at hv1
    simp [hv1, hh]

/-- What a map holds behind a store. -/
def put (f : ByteArray → Option Value) (s : ByteArray) (v : Value) : ByteArray → Option Value := fun t => if t = s then some v else f t

theorem MapIs.store {w : World} {b n : Nat} {f : ByteArray → Option Value} (h : MapIs w b n f) {t e : TypeId} (ht : Try.prog.underlying t = some (.map 9 e)) (hn : n < maxLen) {s : ByteArray} (hs : s.size ≤ maxLen) (v : Value) :
    ∃ w', (Instr.mapUpdate t (.map (some b)) (.string s) v).run Try.prog w = .ok () w' ∧ MapIs w' b (n + 1) (put f s v) ∧ w.grownBy w' (some b) := by
  obtain ⟨D, ho, h1, h2⟩ := h
  obtain ⟨w', hrun, ho', hg⟩ := ho.update keyed9 ht hn (d := .held v) (ps := []) (WideMaps.keyOf_string_mk Try.underlying9 hs) rfl
  refine ⟨w', hrun, ⟨D.put (lit s) (.held v), ho', ?_, ?_⟩, hg⟩
  · intro s' hs'
    unfold put at hs'
    split at hs'
    · cases hs'
    · rename_i hne
      rw [Maps.has_put_other (fun e => hne (lit_inj e))]
      exact h1 s' hs'
  · intro s' v' hs'
    unfold put at hs'
    split at hs'
    · rename_i he
      subst he
      cases hs'
      exact ⟨fun zd => Maps.atKey_put_same ho.isMap (keyLit _) _ zd, Maps.has_put_same ho.isMap (keyLit _) _⟩
    · rename_i hne
      obtain ⟨g1, g2⟩ := h2 s' v' hs'
      exact ⟨fun zd => by rw [Maps.atKey_put_other (fun e => hne (lit_inj e))]; exact g1 zd, by rw [Maps.has_put_other (fun e => hne (lit_inj e))]; exact g2⟩

/-- 'm[k] = v' at the operation, for the walk. -/
theorem wpList_store {w : World} {ops : Array Oper} {rest : List Oper} {o : Oper} {a : Act} {Q : Exit → Act → World → Prop}
    (hg : o.guard = none) (m x u : Operand) (t : TypeId) (hop : o.op = Op.mapUpdate t m x u) (e : TypeId) (ht : Try.prog.underlying t = some (.map 9 e)) (b n : Nat) (f : ByteArray → Option Value)
    (hm : a.eval m = .map (some b)) (hmap : MapIs w b n f) (hn : n < maxLen) (s : ByteArray) (v : Value) (hx : a.eval x = .string s) (hv : a.eval u = v) (hs : s.size ≤ maxLen)
    (hK : ∀ w', MapIs w' b (n + 1) (put f s v) → w.grownBy w' (some b) → wpList Try.prog ops Q rest (a.put o.dst undef) w') :
    wpList Try.prog ops Q (o :: rest) a w := by
  refine wpList_plain hg fun K' hK' => ?_
  obtain ⟨w', hrun, r1, r2⟩ := hmap.store ht hn hs v
  unfold Oper.wp
  simp [execOp, hop, hm, hx, hv, hrun, Result.andThen]
  exact hK' _ _ (hK w' r1 r2)

theorem makeMap_hint (t e : TypeId) (ht : Try.prog.underlying t = some (.map 9 e)) (n : Nat) (w : World) : (Instr.makeMap t (some (.int .i64 (n : Int)))).run Try.prog w = .ok (.map (some w.heap.size)) (w.alloc (.map #[] 0)) := by
  simp [Instr.makeMap, run_underlying ht, asInt, asIntOf]

/-- A row of cells and a map are no one block. -/
theorem own_ne {w : World} {B e size n b m : Nat} {v : Value} {xs : List Value} {f : ByteArray → Option Value} (h : w.ownsRow B e size v n xs) (hm : MapIs w b m f) : some b ≠ v.ownBlock := by
  intro hh
  obtain ⟨D, ⟨es, clock, hb, _⟩, _⟩ := hm
  rcases h.2 with ⟨rfl, _⟩ | ⟨g, cap, cur, rfl, hg, hc, _⟩
  · simp [Value.ownBlock] at hh
  · simp [Value.ownBlock] at hh
    subst hh
    rw [hb] at hc
    simp at hc

theorem own_ge {w : World} {B e size n : Nat} {v : Value} {xs : List Value} (h : w.ownsRow B e size v n xs) : ∀ k, v.ownBlock = some k → B ≤ k := by
  intro k hk
  rcases h.2 with ⟨rfl, _⟩ | ⟨g, cap, cur, rfl, hg, _⟩
  · simp [Value.ownBlock] at hk
  · simp [Value.ownBlock] at hk
    omega

end Go.Proofs.Qxb6600664a

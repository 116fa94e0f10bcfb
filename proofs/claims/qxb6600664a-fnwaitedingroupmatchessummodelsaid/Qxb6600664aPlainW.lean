import Derived.Test.Qxb6600664aWaited
namespace Go.Proofs.Qxb6600664a
open Go.RowKit
set_option linter.unusedVariables false
set_option linter.unusedSimpArgs false

theorem fold_mem (s : ByteArray) : ∀ (es : List En) (acc : Option Rc) (r : Rc), es.foldl (fun acc e => if e.name = s then some e.r else acc) acc = some r → acc = some r ∨ ∃ e ∈ es, e.r = r
  | [], acc, r, h => .inl h
  | e :: l, acc, r, h => by
    rw [List.foldl_cons] at h
    rcases fold_mem s l _ r h with h1 | ⟨x, hx, hr⟩
    · split at h1
      · cases h1; exact .inr ⟨e, by simp, rfl⟩
      · exact .inl h1
    · exact .inr ⟨x, by simp [hx], hr⟩

theorem lookupL_mem {es : List En} {s : ByteArray} {r : Rc} (h : lookupL es s = some r) : ∃ e ∈ es, e.r = r := by
  rcases fold_mem s es none r h with h1 | h1
  · cases h1
  · exact h1

theorem newest_le {held recs : List En} {n : Nat} (hh : ∀ x ∈ held, x.r.kids.length ≤ n) (hr : ∀ x ∈ recs, x.r.kids.length ≤ n) : ∀ s, (newestL held recs s).kids.length ≤ n := by
  intro s
  unfold newestL
  cases h1 : lookupL held s with
  | some r =>
    obtain ⟨e, he, rfl⟩ := lookupL_mem h1
    exact hh e he
  | none =>
    cases h2 : lookupL recs s with
    | some r =>
      obtain ⟨e, he, rfl⟩ := lookupL_mem h2
      exact hr e he
    | none => simp [zeroRc]

/-- The answer never exceeds the rise. -/
theorem loopW_le (held recs : List En) (pres pk : List ByteArray) : ∀ (l : List ByteArray) (rise : Nat), loopW held recs pres pk rise l ≤ rise
  | [], rise => by simp [loopW]
  | s :: l, rise => by
    rw [loopW]
    split
    · exact loopW_le held recs pres pk l rise
    · split
      · omega
      · have := loopW_le held recs pres pk l (rise - totalR (newestL held recs s))
        omega

/-- Where no child was reaped it is the whole rise. -/
theorem loopW_all (held recs : List En) (pres pk : List ByteArray) : ∀ (l : List ByteArray) (rise : Nat), (∀ s ∈ l, isIn pk s = true) → loopW held recs pres pk rise l = rise
  | [], rise, _ => by simp [loopW]
  | s :: l, rise, h => by
    rw [loopW, if_pos (h s (by simp))]
    exact loopW_all held recs pres pk l rise (fun x hx => h x (by simp [hx]))
end Go.Proofs.Qxb6600664a

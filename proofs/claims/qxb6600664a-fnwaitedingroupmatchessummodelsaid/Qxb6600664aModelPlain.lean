import Derived.Test.Qxb6600664aPlainW
namespace Go.Proofs.Qxb6600664a
open Go.RowKit
set_option linter.unusedVariables false
set_option linter.unusedSimpArgs false

/-- The names that p does not name. -/
def reapedL (pk U : List ByteArray) : List ByteArray := U.filter fun s => !isIn pk s
/-- The sum of the totals, without wrap. -/
def sumT (held recs : List En) : List ByteArray → Nat
  | [] => 0
  | s :: l => totalR (newestL held recs s) + sumT held recs l

theorem sumT_snoc (held recs : List En) (s : ByteArray) : ∀ l, sumT held recs (l ++ [s]) = sumT held recs l + totalR (newestL held recs s)
  | [] => by simp [sumT]
  | x :: l => by rw [List.cons_append, sumT, sumT, sumT_snoc held recs s l, Nat.add_assoc]

/-- The closed form. -/
theorem loopW_closed (held recs : List En) (pres pk : List ByteArray) : ∀ (U : List ByteArray) (rise : Nat),
    loopW held recs pres pk rise U = if (reapedL pk U).any (taintL held recs pres) then 0 else rise - sumT held recs (reapedL pk U)
  | [], rise => by simp [loopW, reapedL, sumT]
  | s :: l, rise => by
    rw [loopW]
    cases h : isIn pk s with
    | true =>
      have e : reapedL pk (s :: l) = reapedL pk l := by simp [reapedL, h]
      rw [if_pos rfl, e]
      exact loopW_closed held recs pres pk l rise
    | false =>
      have e : reapedL pk (s :: l) = s :: reapedL pk l := by simp [reapedL, h]
      rw [if_neg (by simp), e, List.any_cons, sumT]
      cases ht : taintL held recs pres s with
      | true => simp
      | false =>
        rw [if_neg (by simp), loopW_closed held recs pres pk l, Bool.false_or, Nat.sub_sub]

theorem loopW_none {held recs : List En} {pres pk U : List ByteArray} (rise : Nat) (h : ∀ s ∈ reapedL pk U, taintL held recs pres s = false) : loopW held recs pres pk rise U = rise - sumT held recs (reapedL pk U) := by
  rw [loopW_closed, if_neg]
  simp only [Bool.not_eq_true, List.any_eq_false]
  intro s hs
  rw [h s hs]

theorem loopW_some {held recs : List En} {pres pk U : List ByteArray} (rise : Nat) {s : ByteArray} (hs : s ∈ reapedL pk U) (h : taintL held recs pres s = true) : loopW held recs pres pk rise U = 0 := by
  rw [loopW_closed, if_pos]
  rw [List.any_eq_true]
  exact ⟨s, hs, h⟩

theorem reaped_le (pk U : List ByteArray) : (reapedL pk U).length ≤ U.length := List.length_filter_le _ _

theorem reaped_take_in {pk U : List ByteArray} {k : Nat} (h : k < U.length) (hin : isIn pk U[k] = true) : reapedL pk (U.take (k + 1)) = reapedL pk (U.take k) := by
  rw [List.take_succ_eq_append_getElem h, reapedL, List.filter_append]
  simp [reapedL, hin]

theorem reaped_take_out {pk U : List ByteArray} {k : Nat} (h : k < U.length) (hin : isIn pk U[k] = false) : reapedL pk (U.take (k + 1)) = reapedL pk (U.take k) ++ [U[k]] := by
  rw [List.take_succ_eq_append_getElem h, reapedL, List.filter_append]
  simp [reapedL, hin]

/-- The names of kids that were met as new ones. -/
def seenL (lk pk ks : List ByteArray) : List ByteArray := ks.filter fun s => !isIn lk s && !isIn pk s

theorem seen_take_skip {lk pk ks : List ByteArray} {j : Nat} (h : j < ks.length) (hs : isIn lk ks[j] = true ∨ isIn pk ks[j] = true) : seenL lk pk (ks.take (j + 1)) = seenL lk pk (ks.take j) := by
  rw [List.take_succ_eq_append_getElem h, seenL, List.filter_append]
  rcases hs with hs | hs <;> simp [seenL, hs]

theorem seen_take_add {lk pk ks : List ByteArray} {j : Nat} (h : j < ks.length) (h1 : isIn lk ks[j] = false) (h2 : isIn pk ks[j] = false) : seenL lk pk (ks.take (j + 1)) = seenL lk pk (ks.take j) ++ [ks[j]] := by
  rw [List.take_succ_eq_append_getElem h, seenL, List.filter_append]
  simp [seenL, h1, h2]

/-- A name twice in a set is there once. -/
theorem setF_again {l : List ByteArray} {y : ByteArray} (h : isIn l y = true) (s : ByteArray) : setF l s = setF (l ++ [y]) s := by
  unfold setF
  rw [isIn_append]
  by_cases e : s = y
  · subst e; simp [h]
  · have : isIn [y] s = false := by
      rw [Bool.eq_false_iff]
      intro hh
      rw [isIn_iff] at hh
      simp at hh
      exact e hh
    rw [this, Bool.or_false]

theorem isIn_false {l : List ByteArray} {s : ByteArray} : isIn l s = false ↔ s ∉ l := by
  rw [← isIn_iff]; simp

/-- A name of kids that is passed over leaves the reaped ones as they were. -/
theorem reaped_union_skip {lk pk ks : List ByteArray} {j : Nat} (h : j < ks.length) (hs : isIn lk ks[j] = true ∨ isIn pk ks[j] = true ∨ isIn (seenL lk pk (ks.take j)) ks[j] = true) :
    reapedL pk (unionL lk (ks.take (j + 1))) = reapedL pk (unionL lk (ks.take j)) := by
  rw [unionL_step h]
  unfold addNew
  split
  · rfl
  · rename_i hn
    rcases hs with hs | hs | hs
    · exact absurd (isIn_iff.2 (mem_unionL.2 (.inl (isIn_iff.1 hs)))) hn
    · rw [reapedL, List.filter_append]
      simp [reapedL, hs]
    · have hm := isIn_iff.1 hs
      unfold seenL at hm
      exact absurd (isIn_iff.2 (mem_unionL.2 (.inr (List.mem_filter.1 hm).1))) hn

theorem reaped_union_add {lk pk ks : List ByteArray} {j : Nat} (h : j < ks.length) (h1 : isIn lk ks[j] = false) (h2 : isIn pk ks[j] = false) (h3 : isIn (seenL lk pk (ks.take j)) ks[j] = false) :
    reapedL pk (unionL lk (ks.take (j + 1))) = reapedL pk (unionL lk (ks.take j)) ++ [ks[j]] := by
  rw [unionL_step h]
  unfold addNew
  rw [if_neg]
  · rw [reapedL, List.filter_append]
    simp [reapedL, h2]
  · rw [isIn_iff, mem_unionL]
    rintro (hh | hh)
    · rw [isIn_iff.2 hh] at h1; cases h1
    · refine absurd ?_ (isIn_false.1 h3)
      unfold seenL
      exact List.mem_filter.2 ⟨hh, by simp [h1, h2]⟩
end Go.Proofs.Qxb6600664a

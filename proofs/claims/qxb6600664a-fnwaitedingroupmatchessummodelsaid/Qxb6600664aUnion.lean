import Derived.Test.Qxb6600664aSet
import Derived.Laws.AppendOwnNone
namespace Go.Proofs.Qxb6600664a
open Go.RowKit
set_option linter.unusedVariables false
set_option linter.unusedSimpArgs false

/-- One name more, unless it is there. -/
def addNew (L : List ByteArray) (y : ByteArray) : List ByteArray := if isIn L y then L else L ++ [y]
def unionL (xs ys : List ByteArray) : List ByteArray := ys.foldl addNew xs

theorem unionL_step {xs ys : List ByteArray} {k : Nat} (h : k < ys.length) : unionL xs (ys.take (k + 1)) = addNew (unionL xs (ys.take k)) ys[k] := by
  unfold unionL
  rw [List.take_succ_eq_append_getElem h, List.foldl_append]
  rfl

theorem unionL_le (xs ys : List ByteArray) : (unionL xs ys).length ≤ xs.length + ys.length := by
  unfold unionL
  induction ys generalizing xs with
  | nil => simp
  | cons y r ih =>
    have := ih (addNew xs y)
    have h2 : (addNew xs y).length ≤ xs.length + 1 := by unfold addNew; split <;> simp
    simp only [List.foldl_cons, List.length_cons]
    omega

theorem mem_unionL {xs ys : List ByteArray} {s : ByteArray} : s ∈ unionL xs ys ↔ s ∈ xs ∨ s ∈ ys := by
  unfold unionL
  induction ys generalizing xs with
  | nil => simp
  | cons y r ih =>
    rw [List.foldl_cons, ih]
    unfold addNew
    split
    · rename_i h
      rw [isIn_iff] at h
      constructor
      · rintro (h1 | h1)
        · exact .inl h1
        · exact .inr (by simp [h1])
      · rintro (h1 | h1)
        · exact .inl h1
        · rcases List.mem_cons.1 h1 with rfl | h2
          · exact .inl h
          · exact .inr h2
    · simp only [List.mem_append, List.mem_cons, List.not_mem_nil, or_false, or_assoc]

/-- Strings as cells. -/
def sc (l : List ByteArray) : List Value := l.map Value.string

theorem info9 : (Try.prog.info? 9).map (fun i => (i.zero, i.size, i.bytes)) = some (some (.string ByteArray.empty), 1, 16) := by kernel_rfl

/-- v is a slice of the call's own (blocks from B on) that holds just the names. -/
def Names (w : World) (B : Nat) (v : Value) (l : List ByteArray) : Prop := w.ownsRow B 9 1 v l.length (sc l)

theorem Names.of {w : World} {B n : Nat} {v : Value} {cells : List Value} {l : List ByteArray} (h : w.ownsRow B 9 1 v n cells) (hc : cells = sc l) : Names w B v l := by
  have hn : n = l.length := by
    have := h.1
    rw [hc] at this
    simpa [sc] using this.symm
  rw [hn, hc] at h
  exact h

theorem sc_oneCell (l : List ByteArray) : ∀ u ∈ sc l, u.oneCell' = true := by
  intro u hu
  simp only [sc, List.mem_map] at hu
  obtain ⟨b, _, rfl⟩ := hu
  rfl

theorem Names.sl {w : World} {B : Nat} {v : Value} {l : List ByteArray} (h : Names w B v l) (hs : ∀ x ∈ l, x.size ≤ maxLen) : StrSl w v l := by
  have hh := h
  obtain ⟨h1, h2⟩ := h
  rcases h2 with ⟨rfl, hz⟩ | ⟨g, cap, cur, rfl, hg, hb, hle, _⟩
  · have := List.length_eq_zero_iff.1 hz
    subst this
    exact StrSl.nil w
  · refine ⟨_, _, rfl, ⟨(fun e => by cases e), hle⟩, hs, .inr ⟨g, 0, rfl, (Array.getElem?_eq_some_iff.1 hb).1, fun j hj => ?_⟩⟩
    have := World.ownsRow.cellAt hh j (by omega)
    rw [Nat.zero_add, this]
    simp [sc, hj]

theorem Names.nil (w : World) (B : Nat) : Names w B (.slice none 0 0) [] := World.ownsRow_nil _ _ _ _

theorem Names.kept {w w' : World} {B : Nat} {v : Value} {l : List ByteArray} {row : Option Nat} (h : Names w B v l) (hg : w.grownBy w' row) (hne : v.ownBlock = none ∨ v.ownBlock ≠ row) : Names w' B v l := by
  obtain ⟨h1, h2⟩ := h
  refine ⟨h1, ?_⟩
  rcases h2 with h2 | ⟨g, cap, cur, rfl, hbg, hb, r⟩
  · exact .inl h2
  · refine .inr ⟨g, cap, cur, rfl, hbg, ?_, r⟩
    rw [hg.block g (Array.getElem?_eq_some_iff.1 hb).1 ?_]
    · exact hb
    · rcases hne with h | h
      · simp [Value.ownBlock] at h
      · exact h

theorem Names.mono {w w' : World} {B : Nat} {v : Value} {l : List ByteArray} (h : Names w B v l) (hb : Below w.heap.size w w') : Names w' B v l := by
  obtain ⟨h1, h2⟩ := h
  refine ⟨h1, ?_⟩
  rcases h2 with h2 | ⟨g, cap, cur, rfl, hbg, hh, r⟩
  · exact .inl h2
  · exact .inr ⟨g, cap, cur, rfl, hbg, by rw [hb.block g (Array.getElem?_eq_some_iff.1 hh).1]; exact hh, r⟩

theorem Names.alloc {w : World} {B : Nat} {v : Value} {l : List ByteArray} (h : Names w B v l) (o : Obj) : Names (w.alloc o) B v l := h.mono ((Below.refl _ _).alloc (Nat.le_refl _) _)

theorem sc_append (a b : List ByteArray) : sc (a ++ b) = sc a ++ sc b := by simp [sc]

/-- 'append(l, m...)', l a slice of the call's own. -/
theorem wpList_append_strs {w : World} {ops : Array Oper} {rest : List Oper} {o : Oper} {a : Act} {Q : Exit → Act → World → Prop} (hgd : o.guard = none) (s x : Operand)
    (ho : o.op = .call { callee := .builtin .append, args := #[s, x], argTypes := #[22, 22] }) (B : Nat) (v : Value) (L : List ByteArray) (hs : a.eval s = v) (hown : Names w B v L)
    (vx : Value) (M : List ByteArray) (hx : a.eval x = vx) (hM : StrSl w vx M) (hn : L.length + M.length ≤ 100000000) (hbase : B ≤ w.heap.size)
    (h : ∀ v' w', Names w' B v' (L ++ M) → w.grownBy w' v.ownBlock → wpList Try.prog ops Q rest (a.put o.dst v') w') : wpList Try.prog ops Q (o :: rest) a w := by
  obtain ⟨i0, hi, hz0, hz1, hz2⟩ := info_parts info9
  obtain ⟨ad, c, rfl, hnone, hrow⟩ := hM
  cases ad with
  | none =>
    have hm := hrow.none_nil
    subst hm
    have hc := hnone.1 rfl
    subst hc
    refine wpList_append_own_none hgd s x 22 ho B 9 i0 1 Try.underlying22 hi v L.length (sc L) hs hown hx (h v w (by simpa using hown) ⟨rfl, rfl, rfl, Nat.le_refl _, fun _ _ _ => rfl⟩)
  | some ad =>
    have hc : ∀ j u, (sc M)[j]? = some u → w.cell? (ad.add j) = some u := by
      intro j u hj
      have hjl : j < M.length := by
        have := (List.getElem?_eq_some_iff.1 hj).1
        simpa [sc] using this
      obtain ⟨b, off, e, hb, hcell⟩ := hrow.at (by omega)
      cases e
      rw [WideShapes.add_plain, hcell j hjl]
      simp [sc, hjl] at hj
      simp [hj]
    refine wpList_append_own w hgd s x 22 ho B 9 i0 (.string ByteArray.empty) 1 16 Try.underlying22 hi hz0 hz1 hz2 rfl (by decide) v L.length (sc L) hs hown ad M.length c (sc M) hx (by simp [sc]) hc (sc_oneCell M) (by unfold maxLen; omega) (by omega) hbase ?_
    intro v' w' h1 h2 _
    exact h v' w' (Names.of h1 (sc_append L M).symm) h2

/-- One string in a block of its own: what 'append(l, s)' lays first. -/
theorem one_sl (w : World) (s : ByteArray) (hs : s.size ≤ maxLen) : StrSl (w.alloc (.cells #[.string s] 9)) (.slice (some ⟨w.heap.size, 0, none⟩) 1 1) [s] := by
  refine ⟨_, _, rfl, ⟨(fun e => by cases e), Nat.le_refl _⟩, by simpa using hs, .inr ⟨w.heap.size, 0, rfl, by simp, fun i hi => ?_⟩⟩
  have : i = 0 := by simpa using hi
  subst this
  simp

set_option maxHeartbeats 1000000 in
theorem union29 (v0 v1 : Value) (xs ys : List ByteArray) (w : World) (h0 : StrSl w v0 xs) (h1 : StrSl w v1 ys) (hl : xs.length ≤ 1000000) (hl1 : ys.length ≤ 1000000) :
    Calls Try.prog 29 #[v0, v1] w fun e w' => ∃ v, e = .returned v ∧ StrSl w' v (unionL xs ys) ∧ Below w.heap.size w w' := by
  obtain ⟨a0, c0, rfl, hn0, hr0⟩ := h0
  obtain ⟨a1, c1, rfl, hn1, hr1⟩ := h1
  have HS0 := hide hr0.1
  have HS1 := hide hr1.1
  have hsl : StrSl w (.slice a0 xs.length c0) xs := ⟨a0, c0, rfl, hn0, hr0⟩
  clear hn0 hn1
  go_enter Try.func29, Try.ntmps29
  go_wp2_with (at_builtin; refine wpList_append_strs rfl _ _ rfl w.heap.size (.slice none 0 0) [] rfl (Names.nil _ _) (.slice a0 xs.length c0) xs rfl hsl (by simp; omega) (Nat.le_refl _) ?_)
  intro v2 w2 hown2 hg2
  replace hown2 : Names w2 w.heap.size v2 xs := by simpa using hown2
  have q2 : Below w.heap.size w w2 := (Below.refl _ _).grown hg2 (Nat.le_refl _) (fun k hk => by simp [Value.ownBlock] at hk)
  clear hg2 hsl
  go_wp2_with fail
  refine (set39 a0 c0 xs w2 (hr0.mono q2) hl).mono ?_
  rintro e w3 ⟨b, n, rfl, hb3, hn, hm3, q⟩
  have q3 : Below w.heap.size w w3 := below_up q2 q2.size q
  have hown3 : Names w3 w.heap.size v2 xs := hown2.mono q
  have hb := Nat.le_trans q2.size hb3
  clear q q2 hown2 hb3
  go_wp2_with fail
  go_loopw [5, 15] (fun u v wr => ∃ k m : Nat, k ≤ ys.length ∧ v = .int .i64 k ∧ m ≤ xs.length + k ∧ Names wr w.heap.size u (unionL xs (ys.take k)) ∧ MapIs wr b m (setF (unionL xs (ys.take k))) ∧ Below w.heap.size w wr) (fun _ v _ => ys.length - (intOf v).toNat)
  case atStart => exact ⟨0, n, Nat.zero_le _, rfl, by omega, hown3, hm3, q3⟩
  case round =>
    clear hown3 hm3 q3
    obtain ⟨k, m, hk, rfl, hm, hown, hmap, hbel⟩ := hrel
    have hle := unionL_le xs (ys.take k)
    rw [List.length_take] at hle
    by_cases hlt : k < ys.length
    · obtain ⟨b1, o1, rfl, hb1, hc1⟩ := hr1.at (by omega)
      have x0 := (hbel.cell (p := ⟨b1, o1 + k, none⟩) hb1).trans (hc1 k hlt)
      clear hc1
      have hi0 : (k : Int) < (ys.length : Int) := by omega
      have hsz := hr1.size hlt
      have hlook := set_look hmap hsz
      have HST := hide (unionL_step (xs := xs) hlt)
      by_cases hin : isIn (unionL xs (ys.take k)) ys[k] = true
      · rw [hin] at hlook
        have HO : Hid (Names wr w.heap.size u5 (unionL xs (ys.take (k + 1)))) := by
          show Names wr w.heap.size u5 (unionL xs (ys.take (k + 1)))
          rw [HST.out, addNew, if_pos hin]; exact hown
        have HM : Hid (MapIs wr b m (setF (unionL xs (ys.take (k + 1))))) := by
          show MapIs wr b m (setF (unionL xs (ys.take (k + 1))))
          rw [HST.out, addNew, if_pos hin]; exact hmap
        clear hown hmap hin hle
        go_wp2
        go_roundw
        case rel => exact ⟨k + 1, m, by omega, by go_num, by omega, HO.out, HM.out, hbel⟩
        case measure => simp [intOf]; omega
      · have hin' : isIn (unionL xs (ys.take k)) ys[k] = false := by simpa using hin
        rw [hin'] at hlook
        go_wp2_with (at_mapUpdate; refine wpList_store rfl _ _ _ 37 rfl 4 Try.underlying37 b m _ rfl hmap (by unfold maxLen; omega) ys[k] (.bool true) rfl rfl hsz ?_)
        intro w1 hmap1 hg1
        have hbel1 := hbel.grown hg1 hbel.size (fun j hj => by cases hj; exact hb)
        have hown1 : Names w1 w.heap.size u5 (unionL xs (ys.take k)) := hown.kept hg1 (.inr (fun e => own_ne hown hmap e.symm))
        clear hlook hmap hg1 hown x0 hbel
        have hsz1 := hbel1.size
        have hge := hide (own_ge hown1)
        have hnb := hide (own_ne hown1 hmap1)
        go_wp2_with (at_builtin; refine wpList_append_strs rfl _ _ rfl w.heap.size u5 (unionL xs (ys.take k)) rfl (hown1.alloc _) _ [ys[k]] rfl (one_sl _ _ hsz) ?e1 ?e2 ?_)
        case e1 => simp; omega
        case e2 => simp; omega
        intro v' w4 hown4 hg4
        have hbel4 := (hbel1.alloc (by omega) _).grown hg4 (by simp; omega) hge.out
        have HM : Hid (MapIs w4 b (m + 1) (setF (unionL xs (ys.take (k + 1))))) := by
          show MapIs w4 b (m + 1) (setF (unionL xs (ys.take (k + 1))))
          refine ((hmap1.alloc _).kept hg4 hnb.out).congr (fun s => ?_)
          rw [setF_put, HST.out, addNew, if_neg hin]
        have HO : Hid (Names w4 w.heap.size v' (unionL xs (ys.take (k + 1)))) := by
          show Names w4 w.heap.size v' (unionL xs (ys.take (k + 1)))
          rw [HST.out, addNew, if_neg hin]; exact hown4
        clear hown4 hg4 hown1 hmap1 hge hnb hin hin'
        go_wp2
        go_roundw
        case rel => exact ⟨k + 1, m + 1, by omega, by go_num, by omega, HO.out, HM.out, hbel4⟩
        case measure => simp [intOf]; omega
    · go_wp2
      go_ret
      rw [List.take_of_length_le (by omega)] at hown
      exact ⟨_, rfl, hown.sl (fun x hx => (mem_unionL.1 hx).elim (HS0.out x) (HS1.out x)), hbel⟩
end Go.Proofs.Qxb6600664a

import Derived.Test.Qxb6600664aNewest
namespace Go.Proofs.Qxb6600664a
open Go.RowKit
set_option linter.unusedVariables false
set_option linter.unusedSimpArgs false

/-- The names that /proc lists, as 'map[string]string' holds them. -/
def presF (l : List ByteArray) : ByteArray → Option Value := fun s => if isIn l s then some (.string ⟨#[]⟩) else none

theorem presF_get (l : List ByteArray) (s : ByteArray) : (presF l s).getD (.string ⟨#[]⟩) = .string ⟨#[]⟩ := by
  unfold presF
  cases isIn l s <;> rfl
theorem presF_some (l : List ByteArray) (s : ByteArray) : (presF l s).isSome = isIn l s := by
  unfold presF
  cases isIn l s <;> rfl
theorem zero9 (w : World) : (zeroValue 9).run Try.prog w = .ok (.string ⟨#[]⟩) w := by kernel_rfl

theorem presF_put (l : List ByteArray) (s t : ByteArray) : put (presF l) s (.string ⟨#[]⟩) t = presF (l ++ [s]) t := by
  unfold put presF
  rw [isIn_append]
  by_cases h : t = s
  · subst h
    simp [isIn]
  · have : isIn [s] t = false := by
      rw [Bool.eq_false_iff]
      intro hh
      rw [isIn_iff] at hh
      simp at hh
      exact h hh
    simp [h, this]

theorem pres_look {w : World} {b n : Nat} {l : List ByteArray} (h : MapIs w b n (presF l)) {s : ByteArray} (hs : s.size ≤ maxLen) :
    (Instr.lookup 54 (.map (some b)) (.string s) true).run Try.prog w = .ok (.tuple #[.string ⟨#[]⟩, .bool (isIn l s)]) w := by
  rw [h.look_ok Try.underlying54 (zero9 w) hs, presF_get, presF_some]

/-- It names a child that is gone from /proc and was found outside. -/
def outsideL (held recs : List En) (pres : List ByteArray) (r : Rc) : Bool := r.kids.any fun x => !isIn pres x && (newestL held recs x).out

theorem any_step {α : Type} (p : α → Bool) {l : List α} {k : Nat} (h : k < l.length) : (l.take (k + 1)).any p = ((l.take k).any p || p l[k]) := by
  rw [List.take_succ_eq_append_getElem h, List.any_append]
  simp

theorem field62 (x0 x1 x2 x3 : Value) (w : World) : (Instr.field 62 (.agg #[x0, x1, x2, x3]) 3).run Try.prog w = .ok x3 w := by kernel_rfl

set_option maxHeartbeats 1000000 in
set_option maxRecDepth 100000 in
theorem outside45 (hb brec bheld bpres nr nh np : Nat) (u : Value) (r : Rc) (recs held : List En) (pres : List ByteArray) (w : World) (hc : w.cell? ⟨hb, 3, none⟩ = some (.map (some brec))) (hlt : hb < w.heap.size) (hR : RecMap w brec nr recs) (hH : RecMap w bheld nh held) (hP : MapIs w bpres np (presF pres)) (hu : RecV w u r) (hl : r.kids.length ≤ 1000000) :
    Calls Try.prog 45 #[.pointer (some ⟨hb, 0, none⟩), u, .map (some bheld), .map (some bpres)] w fun e w' => e = .returned (.bool (outsideL held recs pres r)) ∧ Below w.heap.size w w' := by
  obtain ⟨v, rfl, ⟨a, c, rfl, hn, hr⟩, hsm⟩ := hu
  clear hn hsm
  go_enter Try.func45, Try.ntmps45
  go_wp2
  go_loopw [16] (fun v wr => ∃ k : Nat, k ≤ r.kids.length ∧ v = .int .i64 k ∧ Hid ((r.kids.take k).any (fun x => !isIn pres x && (newestL held recs x).out) = false) ∧ Below w.heap.size w wr) (fun v _ => r.kids.length - (intOf v).toNat)
  case atStart => exact ⟨0, Nat.zero_le _, rfl, rfl, (Below.refl _ _).alloc (Nat.le_refl _) _⟩
  case round =>
    obtain ⟨k, hk, rfl, HA, hbel⟩ := hrel
    by_cases hlt2 : k < r.kids.length
    · obtain ⟨b0, o0, rfl, hb0, hc0⟩ := hr.at (by omega)
      have x0 := (hbel.cell (p := ⟨b0, o0 + k, none⟩) hb0).trans (hc0 k hlt2)
      clear hc0
      have hi0 : (k : Int) < (r.kids.length : Int) := by omega
      have hsz := hr.size hlt2
      have hlook := pres_look (hP.mono hbel) hsz
      have HST := hide (any_step (fun x => !isIn pres x && (newestL held recs x).out) hlt2)
      cases hin : isIn pres r.kids[k] with
      | true =>
        rw [hin] at hlook
        have HF : Hid ((!isIn pres r.kids[k] && (newestL held recs r.kids[k]).out) = false) := by show (!isIn pres r.kids[k] && (newestL held recs r.kids[k]).out) = false; rw [hin]; rfl
        clear hin
        go_wp2_with fail
        go_roundw
        case rel => exact ⟨k + 1, by omega, by go_num, by show _ = _; rw [HST.out, HA.out, HF.out]; rfl, hbel⟩
        case measure => simp [intOf]; omega
      | false =>
        rw [hin] at hlook
        have HIN := hide hin
        clear hin
        go_wp2_with fail
        refine (newest44 hb brec bheld nr nh r.kids[k] recs held wr ((hbel.cell (p := ⟨hb, 3, none⟩) hlt).trans hc) (Nat.lt_of_lt_of_le hlt hbel.size) (hR.mono hbel) (hH.mono hbel) hsz).mono ?_
        rintro e w1 ⟨u1, rfl, ⟨v1, hu1, hv1, hs1⟩, q1⟩
        rw [hu1]
        have hbel1 := below_up hbel hbel.size q1
        have hfld := fun x0 x1 x2 x3 => field62 x0 x1 x2 x3 w1
        clear hu1 hv1 hs1 q1 hlook x0
        cases hout : (newestL held recs r.kids[k]).out with
        | true =>
          have HO : Hid (outsideL held recs pres r = true) := by
            show outsideL held recs pres r = true
            unfold outsideL
            rw [List.any_eq_true]
            exact ⟨r.kids[k], List.getElem_mem hlt2, by rw [HIN.out, hout]; rfl⟩
          clear hout
          go_wp2_with fail
          go_ret
          rw [HO.out]
          exact ⟨rfl, hbel1⟩
        | false =>
          have HF : Hid ((!isIn pres r.kids[k] && (newestL held recs r.kids[k]).out) = false) := by show (!isIn pres r.kids[k] && (newestL held recs r.kids[k]).out) = false; rw [hout]; simp
          clear hout
          go_wp2_with fail
          go_roundw
          case rel => exact ⟨k + 1, by omega, by go_num, by show _ = _; rw [HST.out, HA.out, HF.out]; rfl, hbel1⟩
          case measure => simp [intOf]; omega
    · have HO : Hid (outsideL held recs pres r = false) := by
        show outsideL held recs pres r = false
        have h := HA.out
        rw [List.take_of_length_le (by omega)] at h
        exact h
      go_wp2
      go_ret
      rw [HO.out]
      exact ⟨rfl, hbel⟩
end Go.Proofs.Qxb6600664a

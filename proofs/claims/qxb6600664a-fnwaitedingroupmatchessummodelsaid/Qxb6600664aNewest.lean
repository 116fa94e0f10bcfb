import Derived.Test.Qxb6600664aRecMap
namespace Go.Proofs.Qxb6600664a
open Go.RowKit
set_option linter.unusedVariables false
set_option linter.unusedSimpArgs false

def zeroRc : Rc := ⟨0, 0, [], false⟩
/-- The latest record of a name: held's, else the last read's, else an empty one. -/
def newestL (held recs : List En) (s : ByteArray) : Rc := (lookupL held s).getD ((lookupL recs s).getD zeroRc)

def zeroV : Value := .agg #[.int .u64 0, .int .u64 0, .slice none 0 0, .bool false]
theorem zero62 (w : World) : (zeroValue 62).run Try.prog w = .ok zeroV w := by kernel_rfl
theorem zero31 (w : World) : (zeroValue 31).run Try.prog w = .ok zeroV w := by kernel_rfl
theorem zeroV_rec (w : World) : RecV w zeroV zeroRc := ⟨_, rfl, StrSl.nil w, by simp [Small, zeroRc]⟩

theorem cell_alloc2 {w : World} {a : Addr} {v : Value} (h : w.cell? a = some v) (hlt : a.block < w.heap.size) (o o' : Obj) : ((w.alloc o).alloc o').cell? a = some v := by
  have hb := ((Below.refl w.heap.size w).alloc (Nat.le_refl _) o).alloc (by simp) o'
  rw [hb.cell hlt]
  exact h

set_option maxHeartbeats 1000000 in
theorem newest44 (hb brec bheld nr nh : Nat) (s : ByteArray) (recs held : List En) (w : World) (hc : w.cell? ⟨hb, 3, none⟩ = some (.map (some brec))) (hlt : hb < w.heap.size) (hR : RecMap w brec nr recs) (hH : RecMap w bheld nh held) (hs : s.size ≤ maxLen) :
    Calls Try.prog 44 #[.pointer (some ⟨hb, 0, none⟩), .string s, .map (some bheld)] w fun e w' => ∃ u, e = .returned u ∧ RecV w' u (newestL held recs s) ∧ Below w.heap.size w w' := by
  obtain ⟨f, hf, hfh⟩ := hH
  obtain ⟨g, hg, hgh⟩ := hR
  have hl1 := fun o => (hf.alloc o).look_ok (t := 56) (e := 62) Try.underlying56 (zero62 _) hs
  cases hL : lookupL held s with
  | some r =>
    obtain ⟨u, hu, v, rfl, hv, hsm⟩ := (hfh s).2 r hL
    have HV : Hid (RecV w (.agg #[.int .u64 (r.own : Int), .int .u64 (r.waited : Int), v, .bool r.out]) r) := ⟨v, rfl, hv, hsm⟩
    obtain ⟨a, c, rfl, hn, hr⟩ := hv
    rw [hu] at hl1
    simp only [Option.getD_some, Option.isSome_some] at hl1
    have HN : Hid (newestL held recs s = r) := by show newestL held recs s = r; simp [newestL, hL]
    clear hL hf hfh hg hgh hn hr hu hsm
    go_enter Try.func44, Try.ntmps44
    go_wp2
    go_returns
    rw [HN.out]
    refine ⟨_, rfl, HV.out.mono (by go_grown), by go_grown⟩
  | none =>
    have hu := (hfh s).1 hL
    rw [hu] at hl1
    simp only [Option.getD_none, Option.isSome_none, zeroV] at hl1
    have hl2 := fun o o' => ((hg.alloc o).alloc o').look (t := 56) (e := 62) Try.underlying56 (zero62 _) hs
    have hc2 := cell_alloc2 hc hlt
    cases hL2 : lookupL recs s with
    | some r =>
      obtain ⟨u, hu2, v, rfl, hv, hsm⟩ := (hgh s).2 r hL2
      have HV : Hid (RecV w (.agg #[.int .u64 (r.own : Int), .int .u64 (r.waited : Int), v, .bool r.out]) r) := ⟨v, rfl, hv, hsm⟩
      obtain ⟨a, c, rfl, hn, hr⟩ := hv
      rw [hu2] at hl2
      simp only [Option.getD_some] at hl2
      have HN : Hid (newestL held recs s = r) := by show newestL held recs s = r; simp [newestL, hL, hL2]
      clear hL hL2 hf hfh hg hgh hn hr hu hu2 hsm
      go_enter Try.func44, Try.ntmps44
      go_wp2
      go_returns
      rw [HN.out]
      refine ⟨_, rfl, HV.out.mono (by go_grown), by go_grown⟩
    | none =>
      have hu2 := (hgh s).1 hL2
      rw [hu2] at hl2
      simp only [Option.getD_none, zeroV] at hl2
      have HN : Hid (newestL held recs s = zeroRc) := by show newestL held recs s = zeroRc; simp [newestL, hL, hL2]
      clear hL hL2 hf hfh hg hgh hu hu2
      go_enter Try.func44, Try.ntmps44
      go_wp2
      go_returns
      rw [HN.out]
      refine ⟨_, rfl, zeroV_rec _, by go_grown⟩
end Go.Proofs.Qxb6600664a

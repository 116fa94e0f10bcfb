import Derived.Test.Qxb6600664aWaited
namespace Go.Proofs.Qxb6600664a
open Go.RowKit
set_option linter.unusedVariables false
set_option linter.unusedSimpArgs false

set_option maxHeartbeats 1000000 in
/-- 'cpuLatest'. -/
theorem latest37 (brec bheld nr nh : Nat) (s : ByteArray) (recs held : List En) (w : World) (hR : RecMap w brec nr recs) (hH : RecMap w bheld nh held) (hs : s.size ≤ maxLen) :
    Calls Try.prog 37 #[.string s, .map (some bheld), .map (some brec)] w fun e w' => ∃ u, e = .returned u ∧ RecV w' u (newestL held recs s) ∧ Below w.heap.size w w' := by
  obtain ⟨f, hf, hfh⟩ := hH
  obtain ⟨g, hg, hgh⟩ := hR
  have hl1 := fun o => (hf.alloc o).look_ok (t := 50) (e := 31) Try.underlying50 (zero31 _) hs
  cases hL : lookupL held s with
  | some r =>
    obtain ⟨u, hu, v, rfl, hv, hsm⟩ := (hfh s).2 r hL
    have HV : Hid (RecV w (.agg #[.int .u64 (r.own : Int), .int .u64 (r.waited : Int), v, .bool r.out]) r) := ⟨v, rfl, hv, hsm⟩
    obtain ⟨a, c, rfl, hn, hr⟩ := hv
    rw [hu] at hl1
    simp only [Option.getD_some, Option.isSome_some] at hl1
    have HN : Hid (newestL held recs s = r) := by show newestL held recs s = r; simp [newestL, hL]
    clear hL hf hfh hg hgh hn hr hu hsm
    go_enter Try.func37, Try.ntmps37
    go_wp2
    go_returns
    rw [HN.out]
    refine ⟨_, rfl, HV.out.mono (by go_grown), by go_grown⟩
  | none =>
    have hu := (hfh s).1 hL
    rw [hu] at hl1
    simp only [Option.getD_none, Option.isSome_none, zeroV] at hl1
    have hl2 := fun o o' => ((hg.alloc o).alloc o').look_ok (t := 50) (e := 31) Try.underlying50 (zero31 _) hs
    cases hL2 : lookupL recs s with
    | some r =>
      obtain ⟨u, hu2, v, rfl, hv, hsm⟩ := (hgh s).2 r hL2
      have HV : Hid (RecV w (.agg #[.int .u64 (r.own : Int), .int .u64 (r.waited : Int), v, .bool r.out]) r) := ⟨v, rfl, hv, hsm⟩
      obtain ⟨a, c, rfl, hn, hr⟩ := hv
      rw [hu2] at hl2
      simp only [Option.getD_some, Option.isSome_some] at hl2
      have HN : Hid (newestL held recs s = r) := by show newestL held recs s = r; simp [newestL, hL, hL2]
      clear hL hL2 hf hfh hg hgh hn hr hu hu2 hsm
      go_enter Try.func37, Try.ntmps37
      go_wp2
      go_returns
      rw [HN.out]
      refine ⟨_, rfl, HV.out.mono (by go_grown), by go_grown⟩
    | none =>
      have hu2 := (hgh s).1 hL2
      rw [hu2] at hl2
      simp only [Option.getD_none, Option.isSome_none, zeroV] at hl2
      have HN : Hid (newestL held recs s = zeroRc) := by show newestL held recs s = zeroRc; simp [newestL, hL, hL2]
      clear hL hL2 hf hfh hg hgh hu hu2
      go_enter Try.func37, Try.ntmps37
      go_wp2
      go_returns
      rw [HN.out]
      refine ⟨_, rfl, zeroV_rec _, by go_grown⟩
end Go.Proofs.Qxb6600664a

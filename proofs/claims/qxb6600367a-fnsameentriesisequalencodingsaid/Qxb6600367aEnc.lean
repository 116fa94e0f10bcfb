import Derived.Test.Qxb6600367aMem
namespace Go.Proofs.Qxb6600367a
open Go.RowKit
set_option linter.unusedVariables false
set_option linter.unusedSimpArgs false

/-- The eight bytes of a word, the lowest first. -/
def word (x : Nat) : List Nat := (List.range 8).map fun i => x / 256 ^ i % 256

theorem word_length (x : Nat) : (word x).length = 8 := by simp [word]

theorem mod_of_bytes (x y : Nat) : ∀ n, (∀ i, i < n → x / 256 ^ i % 256 = y / 256 ^ i % 256) → x % 256 ^ n = y % 256 ^ n
  | 0, _ => by simp [Nat.mod_one]
  | n + 1, h => by
    rw [Nat.mod_pow_succ, Nat.mod_pow_succ, mod_of_bytes x y n (fun i hi => h i (by omega)), h n (by omega)]

theorem word_inj {x y : Nat} (hx : x < 18446744073709551616) (hy : y < 18446744073709551616) (h : word x = word y) : x = y := by
  have := mod_of_bytes x y 8 (fun i hi => by
    have := congrArg (fun l => l[i]?) h
    simpa [word, hi] using this)
  rw [show (256 : Nat) ^ 8 = 18446744073709551616 by decide, Nat.mod_eq_of_lt hx, Nat.mod_eq_of_lt hy] at this
  exact this

/-- A string's bytes. -/
def sb (s : ByteArray) : List Nat := s.data.toList.map UInt8.toNat

theorem sb_length (s : ByteArray) : (sb s).length = s.size := by
  unfold sb
  rw [List.length_map, Array.length_toList]
  rfl

theorem toNats_inj : ∀ {a b : List UInt8}, a.map UInt8.toNat = b.map UInt8.toNat → a = b
  | [], [], _ => rfl
  | [], _ :: _, h => by simp at h
  | _ :: _, [], h => by simp at h
  | x :: r, y :: r', h => by
    simp only [List.map_cons, List.cons.injEq] at h
    rw [UInt8.toNat_inj.1 h.1, toNats_inj h.2]

theorem sb_inj {s t : ByteArray} (h : sb s = sb t) : s = t := by
  have h2 : s.data.toList = t.data.toList := toNats_inj h
  obtain ⟨⟨x⟩⟩ := s
  obtain ⟨⟨y⟩⟩ := t
  simp at h2
  simp [h2]

/-- perms as a word: uint64(uint32(p)). -/
def pw (p : Int) : Nat := (p % 4294967296).toNat

theorem pw_lt (p : Int) : pw p < 4294967296 := by unfold pw; omega

theorem pw_inj {p q : Int} (hp : -2147483648 ≤ p ∧ p ≤ 2147483647) (hq : -2147483648 ≤ q ∧ q ≤ 2147483647) (h : pw p = pw q) : p = q := by
  unfold pw at h; omega

def ent (e : Ent) : List Nat := word (pw e.p) ++ (word e.s.size ++ (sb e.s ++ (word e.d.size ++ sb e.d)))

def body : List Ent → List Nat
  | [] => []
  | e :: r => ent e ++ body r

def encode (xs : List Ent) : List Nat := word xs.length ++ body xs

theorem body_append (a b : List Ent) : body (a ++ b) = body a ++ body b := by
  induction a with
  | nil => rfl
  | cons x r ih => simp [body, ih]

theorem body_step {xs : List Ent} {k : Nat} (h : k < xs.length) : body (xs.take (k + 1)) = body (xs.take k) ++ ent xs[k] := by
  rw [List.take_succ_eq_append_getElem h, body_append]; simp [body]

/-- An entry as the law's arguments can hold it. -/
def Fits (e : Ent) : Prop := (-2147483648 ≤ e.p ∧ e.p ≤ 2147483647) ∧ e.s.size < 18446744073709551616 ∧ e.d.size < 18446744073709551616

theorem ent_inj {e e' : Ent} {r r' : List Nat} (h1 : Fits e) (h2 : Fits e') (h : ent e ++ r = ent e' ++ r') : e = e' ∧ r = r' := by
  obtain ⟨p, s, d⟩ := e
  obtain ⟨p', s', d'⟩ := e'
  obtain ⟨a1, a2, a3⟩ := h1
  obtain ⟨b1, b2, b3⟩ := h2
  simp only [ent, List.append_assoc] at h
  simp only at a1 a2 a3 b1 b2 b3
  obtain ⟨e1, h⟩ := List.append_inj h (by simp [word_length])
  obtain ⟨e2, h⟩ := List.append_inj h (by simp [word_length])
  have e2' := word_inj a2 b2 e2
  obtain ⟨e3, h⟩ := List.append_inj h (by rw [sb_length, sb_length, e2'])
  obtain ⟨e4, h⟩ := List.append_inj h (by simp [word_length])
  have e4' := word_inj a3 b3 e4
  obtain ⟨e5, h⟩ := List.append_inj h (by rw [sb_length, sb_length, e4'])
  have e1' := pw_inj a1 b1 (word_inj (by have := pw_lt p; omega) (by have := pw_lt p'; omega) e1)
  rw [e1', sb_inj e3, sb_inj e5]
  exact ⟨rfl, h⟩

theorem body_inj : ∀ {xs ys : List Ent}, xs.length = ys.length → (∀ x ∈ xs, Fits x) → (∀ y ∈ ys, Fits y) → body xs = body ys → xs = ys
  | [], [], _, _, _, _ => rfl
  | x :: r, y :: r', hl, hx, hy, h => by
    obtain ⟨e, h'⟩ := ent_inj (hx x (by simp)) (hy y (by simp)) h
    rw [e, body_inj (by simpa using hl) (fun z hz => hx z (by simp [hz])) (fun z hz => hy z (by simp [hz])) h']

/-- THE ENCODING IS INJECTIVE. -/
theorem encode_inj {xs ys : List Ent} (h1 : xs.length < 18446744073709551616) (h2 : ys.length < 18446744073709551616) (hx : ∀ x ∈ xs, Fits x) (hy : ∀ y ∈ ys, Fits y) : encode xs = encode ys ↔ xs = ys := by
  constructor
  · intro h
    obtain ⟨e1, e2⟩ := List.append_inj h (by simp [word_length])
    exact body_inj (word_inj h1 h2 e1) hx hy e2
  · intro h; rw [h]

theorem ent_length (e : Ent) : (ent e).length = 24 + e.s.size + e.d.size := by
  simp only [ent, List.length_append, word_length, sb_length]; omega

end Go.Proofs.Qxb6600367a

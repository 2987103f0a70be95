/-
  THE PLAIN LAW of the seat b6604056a: the scanner over a list of bytes, and what Index of the two bytes 92, 69 means for it. No Go in sight.
-/
import Derived.Lib.IndexMore
namespace Go.Proofs.Qxb6604056a
open Go.Lib

/-- One step of the four-state scanner (0 plain, 1 behind an escaping backslash, 2 in a quote, else in a quote behind a backslash). -/
def step (st : Nat) (c : UInt8) : Nat :=
  if st = 0 then (if c = 92 then 1 else 0)
  else if st = 1 then (if c = 81 then 2 else 0)
  else if st = 2 then (if c = 92 then 3 else 2)
  else (if c = 69 then 0 else if c = 92 then 3 else 2)

/-- Does the scan of l, begun in state st, end in a quote? -/
def sc : Nat → List UInt8 → Bool
  | st, [] => decide (2 ≤ st)
  | st, c :: l => sc (step st c) l

theorem sc_plain (c : UInt8) (l : List UInt8) (h : c ≠ 92) : sc 0 (c :: l) = sc 0 l := by
  simp [sc, step, h]
theorem sc_esc (c : UInt8) (l : List UInt8) (h : c ≠ 81) : sc 0 (92 :: c :: l) = sc 0 l := by
  simp [sc, step, h]
theorem sc_open (l : List UInt8) : sc 0 (92 :: 81 :: l) = sc 2 l := by
  simp [sc, step]
theorem sc_short (l : List UInt8) (h : l.length ≤ 1) : sc 0 l = false := by
  match l, h with
  | [], _ => simp [sc]
  | [c], _ => by_cases e : c = 92 <;> simp [sc, step, e]

theorem sc_three (d : UInt8) (l : List UInt8) (h : d ≠ 69) : sc 3 (d :: l) = sc 2 (d :: l) := by
  by_cases e : d = 92 <;> simp [sc, step, h, e]

theorem index_cons_not (b : UInt8) (l sub : List UInt8) (h : sub.isPrefixOf (b :: l) = false) :
    index (b :: l) sub = if index l sub == -1 then -1 else index l sub + 1 := by
  simp [index, h]

/-- In a quote: no closing pair: it runs to the end; the first closing pair at j: behind it the scan is in state 0. -/
theorem sc_quote : ∀ l : List UInt8, (index l [92, 69] = -1 → sc 2 l = true) ∧ (∀ j : Nat, index l [92, 69] = (j : Int) → sc 2 l = sc 0 (l.drop (j + 2)))
  | [] => by
    refine ⟨fun _ => by simp [sc], fun j hj => ?_⟩
    have : index [] [92, 69] = -1 := by decide
    omega
  | c :: l => by
    have ih := sc_quote l
    by_cases hc : c = 92
    · subst hc
      match l with
      | [] =>
        refine ⟨fun _ => by simp [sc, step], fun j hj => ?_⟩
        have : index [92] [92, 69] = -1 := by decide
        omega
      | d :: m =>
        by_cases hd : d = 69
        · subst hd
          have hp : index (92 :: 69 :: m) [92, 69] = 0 := by simp [index, List.isPrefixOf]
          refine ⟨fun h => by omega, fun j hj => ?_⟩
          have : j = 0 := by omega
          subst this
          simp [sc, step]
        · have hp : ([92, 69] : List UInt8).isPrefixOf (92 :: d :: m) = false := by
            simp [List.isPrefixOf]
            exact fun h => hd h.symm
          have hs : sc 2 (92 :: d :: m) = sc 2 (d :: m) := by
            rw [← sc_three d m hd]; simp [sc, step]
          have hge := index_ge (d :: m) [92, 69]
          have hi := index_cons_not 92 (d :: m) [92, 69] hp
          rw [hs, hi]
          by_cases hn : index (d :: m) [92, 69] = -1
          · refine ⟨fun _ => ih.1 hn, fun j hj => ?_⟩
            rw [hn] at hj; simp at hj
          · rw [if_neg (by simpa using hn)]
            refine ⟨fun h => by omega, fun j hj => ?_⟩
            have := ih.2 (j - 1) (by omega)
            have e : j + 2 = (j - 1 + 2) + 1 := by omega
            have e2 : (92 :: d :: m).drop (j + 2) = (d :: m).drop (j - 1 + 2) := by rw [e, List.drop_succ_cons]
            rw [e2]; exact this
    · have hp : ([92, 69] : List UInt8).isPrefixOf (c :: l) = false := by
        simp [List.isPrefixOf]
        intro h; exact absurd h.symm hc
      have hs : sc 2 (c :: l) = sc 2 l := by simp [sc, step, hc]
      have hge := index_ge l [92, 69]
      have hi := index_cons_not c l [92, 69] hp
      rw [hs, hi]
      by_cases hn : index l [92, 69] = -1
      · refine ⟨fun _ => ih.1 hn, fun j hj => ?_⟩
        rw [hn] at hj; simp at hj
      · rw [if_neg (by simpa using hn)]
        refine ⟨fun h => by omega, fun j hj => ?_⟩
        have := ih.2 (j - 1) (by omega)
        rw [this]
        have e : j + 2 = (j - 1 + 2) + 1 := by omega
        rw [e, List.drop_succ_cons]

theorem sc_no_slash : ∀ (t : List UInt8), (∀ c ∈ t, c ≠ 92) → sc 2 t = true
  | [], _ => by simp [sc]
  | c :: t, h => by
    have h0 : c ≠ 92 := h c (by simp)
    have : sc 2 (c :: t) = sc 2 t := by simp [sc, step, h0]
    rw [this]
    exact sc_no_slash t fun x hx => h x (by simp [hx])

/-- Whatever state the scan is in: behind the four bytes 92, 69, 92, 81 it is in state 2. -/
theorem sc_four (st : Nat) (t : List UInt8) : sc st (92 :: 69 :: 92 :: 81 :: t) = sc 2 t := by
  by_cases h0 : st = 0
  · subst h0; simp [sc, step]
  · by_cases h1 : st = 1
    · subst h1; simp [sc, step]
    · by_cases h2 : st = 2
      · subst h2; simp [sc, step]
      · simp [sc, step, h0, h1, h2]

theorem sc_append : ∀ (p q : List UInt8) (st : Nat), ∃ st', sc st (p ++ q) = sc st' q
  | [], q, st => ⟨st, rfl⟩
  | c :: p, q, st => by
    obtain ⟨st', h⟩ := sc_append p q (step st c)
    exact ⟨st', by simpa [sc] using h⟩

theorem sc_after_open (p t : List UInt8) (h : ∀ c ∈ t, c ≠ 92) : sc 0 (p ++ ([92, 69, 92, 81] ++ t)) = true := by
  obtain ⟨st, hs⟩ := sc_append p ([92, 69, 92, 81] ++ t) 0
  rw [hs]
  have : sc st ([92, 69, 92, 81] ++ t) = sc 2 t := sc_four st t
  rw [this]
  exact sc_no_slash t h

end Go.Proofs.Qxb6604056a

/-
  THE PLAIN LAW of the seat b6602915a: names as lists of bytes, their labels (the pieces between the bytes 46), and what it means for two names that one lies below the other. No Go in sight.
-/
import Derived.Lib.Strings
namespace Go.Proofs.Qxb6602915a
open Go.Lib

/-- The labels of a name: split at every 46. -/
def labels : List UInt8 → List (List UInt8)
  | [] => [[]]
  | c :: l => if c = 46 then [] :: labels l else match labels l with
    | [] => [[c]]
    | h :: t => (c :: h) :: t

theorem labels_cons : ∀ l, ∃ h t, labels l = h :: t
  | [] => ⟨[], [], rfl⟩
  | c :: l => by
    obtain ⟨h, t, e⟩ := labels_cons l
    by_cases hc : c = 46
    · exact ⟨[], labels l, by simp [labels, hc]⟩
    · exact ⟨c :: h, t, by simp [labels, hc, e]⟩

theorem labels_split : ∀ (x y : List UInt8), labels (x ++ 46 :: y) = labels x ++ labels y
  | [], y => by simp [labels]
  | c :: x, y => by
    have ih := labels_split x y
    by_cases hc : c = 46
    · simp [labels, hc, ih]
    · obtain ⟨h, t, e⟩ := labels_cons x
      simp [labels, hc, ih, e]

theorem labels_plain : ∀ (x : List UInt8), (∀ c ∈ x, c ≠ 46) → labels x = [x]
  | [], _ => rfl
  | c :: x, h => by
    have hc : c ≠ 46 := h c (by simp)
    have ih := labels_plain x fun d hd => h d (by simp [hd])
    simp [labels, hc, ih]

theorem labels_dot (x y : List UInt8) (h : ∀ c ∈ x, c ≠ 46) : labels (x ++ 46 :: y) = x :: labels y := by
  rw [labels_split, labels_plain x h]; rfl

theorem labels_length : ∀ l, (labels l).length = l.count 46 + 1
  | [] => rfl
  | c :: l => by
    have ih := labels_length l
    by_cases hc : c = 46
    · simp [labels, hc, ih]
    · obtain ⟨h, t, e⟩ := labels_cons l
      rw [e] at ih
      simp [labels, hc, e, ← ih]

/-! ### back from the labels to the name -/
def joinTail : List (List UInt8) → List UInt8
  | [] => []
  | a :: r => 46 :: (a ++ joinTail r)
def join : List (List UInt8) → List UInt8
  | [] => []
  | a :: r => a ++ joinTail r

theorem joinTail_append : ∀ p q, joinTail (p ++ q) = joinTail p ++ joinTail q
  | [], q => rfl
  | a :: p, q => by simp [joinTail, joinTail_append p q]

theorem join_labels : ∀ l, join (labels l) = l
  | [] => rfl
  | c :: l => by
    have ih := join_labels l
    obtain ⟨h, t, e⟩ := labels_cons l
    rw [e] at ih
    by_cases hc : c = 46
    · simp only [labels, hc, if_true, e]
      simp [join, joinTail] at ih ⊢
      exact ih
    · simp [labels, hc, e]
      simp [join] at ih ⊢
      exact ih

theorem join_append (a : List UInt8) (p : List (List UInt8)) (b : List UInt8) (q : List (List UInt8)) : join ((a :: p) ++ (b :: q)) = join (a :: p) ++ 46 :: join (b :: q) := by
  simp [join, joinTail_append, joinTail]

theorem labels_inj {s n : List UInt8} (h : labels n = labels s) : n = s := by
  rw [← join_labels n, ← join_labels s, h]

/-! ### below: ends with 46 and the other name -/
def belowB (n s : List UInt8) : Bool := hasSuffix n s && hasSuffix (trimSuffix n s) [46]

theorem below_iff (n s : List UInt8) : belowB n s = true ↔ ∃ x, n = x ++ 46 :: s := by
  unfold belowB
  constructor
  · intro h
    simp only [Bool.and_eq_true] at h
    obtain ⟨h1, h2⟩ := h
    unfold trimSuffix at h2
    rw [if_pos h1] at h2
    unfold hasSuffix at h1 h2
    rw [List.isSuffixOf_iff_suffix] at h1 h2
    obtain ⟨y, rfl⟩ := h1
    obtain ⟨x, hx⟩ := h2
    have e : (y ++ s).take ((y ++ s).length - s.length) = y := by simp
    rw [e] at hx
    exact ⟨x, by rw [← hx]; simp⟩
  · rintro ⟨x, rfl⟩
    have h1 : hasSuffix (x ++ 46 :: s) s = true := by
      unfold hasSuffix
      rw [List.isSuffixOf_iff_suffix]
      exact ⟨x ++ [46], by simp⟩
    rw [h1]
    unfold trimSuffix
    rw [if_pos h1]
    have e : (x ++ 46 :: s).take ((x ++ 46 :: s).length - s.length) = x ++ [46] := by
      have e2 : x ++ 46 :: s = (x ++ [46]) ++ s := by simp
      rw [e2, List.length_append, Nat.add_sub_cancel]
      exact List.take_left' rfl
    rw [e]
    unfold hasSuffix
    simp only [Bool.true_and]
    rw [List.isSuffixOf_iff_suffix]
    exact ⟨x, rfl⟩

/-! ### one list of labels ends with the other -/
def suf (a b : List (List UInt8)) : Bool := decide (b.length ≤ a.length) && (a.drop (a.length - b.length) == b)

theorem suf_iff (a b : List (List UInt8)) : suf a b = true ↔ ∃ p, a = p ++ b := by
  unfold suf
  simp only [Bool.and_eq_true, decide_eq_true_eq, beq_iff_eq]
  constructor
  · rintro ⟨_, h⟩
    refine ⟨a.take (a.length - b.length), ?_⟩
    have e := List.take_append_drop (a.length - b.length) a
    rw [h] at e
    exact e.symm
  · rintro ⟨p, rfl⟩
    exact ⟨by simp, by simp⟩

/-- The labels of n end with the labels of s, and are more: n lies below s. -/
theorem suf_more (n s : List UInt8) : (decide ((labels s).length < (labels n).length) && suf (labels n) (labels s)) = belowB n s := by
  rw [Bool.eq_iff_iff, below_iff]
  simp only [Bool.and_eq_true, decide_eq_true_eq, suf_iff]
  constructor
  · rintro ⟨hlt, p, hp⟩
    match p, hp with
    | [], hp => rw [hp] at hlt; simp at hlt
    | a :: p, hp =>
      obtain ⟨h, t, e⟩ := labels_cons s
      have hj := join_labels n
      rw [hp, e, join_append, ← e, join_labels] at hj
      exact ⟨_, hj.symm⟩
  · rintro ⟨x, rfl⟩
    rw [labels_split]
    obtain ⟨h, t, e⟩ := labels_cons x
    refine ⟨?_, labels x, rfl⟩
    rw [e]
    simp
    omega

theorem suf_same (n s : List UInt8) : (((labels n).length == (labels s).length) && suf (labels n) (labels s)) = (n == s) := by
  rw [Bool.eq_iff_iff]
  simp only [Bool.and_eq_true, beq_iff_eq, suf_iff]
  constructor
  · rintro ⟨hlen, p, hp⟩
    have : p = [] := by
      rw [hp] at hlen
      simp at hlen
      exact hlen
    subst this
    exact labels_inj hp
  · rintro rfl
    exact ⟨rfl, [], rfl⟩

theorem suf_any (n s : List UInt8) : suf (labels n) (labels s) = ((n == s) || belowB n s) := by
  rw [← suf_same, ← suf_more]
  cases h : suf (labels n) (labels s)
  · simp
  · obtain ⟨p, hp⟩ := (suf_iff _ _).1 h
    have : (labels s).length ≤ (labels n).length := by rw [hp]; simp
    simp
    omega

/-- Below by just one label. -/
theorem suf_one (s n : List UInt8) : (((labels s).length == (labels n).length + 1) && suf (labels s) (labels n)) = (belowB s n && (s.count 46 == n.count 46 + 1)) := by
  rw [← suf_more, labels_length, labels_length]
  cases h : suf (labels s) (labels n)
  · simp
  · by_cases hc : s.count 46 = n.count 46 + 1
    · simp [hc]
    · simp [hc]

/-! ### the two relations -/
def relI (b : Bool) : Int := if b then 1 else 0

/-- What the code says. -/
def relA (s : List UInt8) (b : Bool) (n : List UInt8) (wi : Bool) : Int :=
  if s.isEmpty then 1
  else if !wi then relI (((n == s) && !b) || belowB n s)
  else if (n == s) || belowB n s then 1
  else if (!b && belowB s n) && (s.count 46 == n.count 46 + 1) then 2
  else 0

/-- What the model of labels says. -/
def relM (s : List UInt8) (b : Bool) (n : List UInt8) (wi : Bool) : Int :=
  if s.isEmpty then 1
  else if !wi then
    if (!b && ((labels n).length == (labels s).length)) && suf (labels n) (labels s) then 1
    else if decide ((labels s).length < (labels n).length) && suf (labels n) (labels s) then 1
    else 0
  else if suf (labels n) (labels s) then 1
  else if (!b && ((labels s).length == (labels n).length + 1)) && suf (labels s) (labels n) then 2
  else 0

theorem rel_eq (s : List UInt8) (b : Bool) (n : List UInt8) (wi : Bool) : relA s b n wi = relM s b n wi := by
  unfold relA relM
  rw [Bool.and_assoc (!b) ((labels n).length == (labels s).length) (suf (labels n) (labels s)), suf_same, suf_more, Bool.and_assoc (!b) ((labels s).length == (labels n).length + 1) (suf (labels s) (labels n)), suf_one, suf_any, Bool.and_assoc (!b) (belowB s n)]
  cases s.isEmpty <;> cases wi <;> cases b <;> cases (n == s) <;> cases (belowB n s) <;> simp [relI]

end Go.Proofs.Qxb6602915a

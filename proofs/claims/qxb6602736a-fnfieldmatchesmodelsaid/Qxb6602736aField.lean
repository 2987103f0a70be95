/-
  The contracts of accesslog.field and of its shim ZZfield over strings.Cut's own; and the plain facts on the first space of a string.
-/
import Derived.Test.Qxb6602736aRows
import Derived.Test.Qxb6602736aShelf
import Derived.WalkKit
import Derived.WalkSpells
import Derived.Deep.Draws
import Derived.Lib.CutLaws
import Derived.Lib.IndexBytes
namespace Go.Proofs.Qxb6602736a
open Go.RowKit Go.Lib

/-! ### plain: the first space -/
theorem extract_empty (s : ByteArray) (i : Nat) (h : i ≤ s.size) : (!(s.extract 0 i).toList.isEmpty) = decide (0 < i) := by
  rw [extract_toList]
  have hl : s.data.toList.length = s.size := (size_eq s).symm
  by_cases h0 : i = 0
  · subst h0; simp
  · have : (List.take (i - 0) (List.drop 0 s.data.toList)).isEmpty = false := by
      rw [List.isEmpty_eq_false_iff]
      intro hn
      have := congrArg List.length hn
      simp at this
      have h2 : s.size ≠ 0 := by omega
      have h3 : s.data.toList ≠ [] := by
        intro h4; rw [h4] at hl; simp at hl; omega
      simp_all
    rw [this]; simp; omega

theorem indexByte_first : ∀ (l : List UInt8) (c : UInt8) (i : Nat), indexByte l c = (i : Int) → l[i]? = some c ∧ ∀ j < i, l[j]? ≠ some c
  | [], c, i, h => by simp [indexByte] at h
  | b :: l, c, i, h => by
    unfold indexByte at h
    by_cases hb : b = c
    · subst hb
      simp at h
      have : i = 0 := by omega
      subst this
      simp
    · have hge := indexByte_ge l c
      rw [if_neg (by simpa using hb)] at h
      by_cases hn : indexByte l c = -1
      · rw [hn] at h; simp at h
      · rw [if_neg (by simpa using hn)] at h
        obtain ⟨h1, h2⟩ := indexByte_first l c (i - 1) (by omega)
        have e : i = (i - 1) + 1 := by omega
        refine ⟨by rw [e]; simpa using h1, ?_⟩
        intro j hj
        match j with
        | 0 => simpa using hb
        | j + 1 => simpa using h2 j (by omega)

theorem indexByte_none : ∀ (l : List UInt8) (c : UInt8), indexByte l c = -1 → ∀ j : Nat, l[j]? ≠ some c
  | [], c, _, j => by simp
  | b :: l, c, h, j => by
    unfold indexByte at h
    have hge := indexByte_ge l c
    by_cases hb : b = c
    · subst hb; simp at h
    · rw [if_neg (by simpa using hb)] at h
      by_cases hn : indexByte l c = -1
      · match j with
        | 0 => simpa using hb
        | j + 1 => simpa using indexByte_none l c hn j
      · rw [if_neg (by simpa using hn)] at h
        omega

theorem indexB_one (s : ByteArray) (c : UInt8) : indexB s ⟨#[c]⟩ = indexByte s.data.toList c := index_one s.data.toList c

theorem byte_ne (s : ByteArray) (j : Nat) (c : UInt8) (hj : j < s.size) (h : s.data.toList[j]? ≠ some c) : s[j] ≠ c := by
  rw [data_getElem? s j hj] at h
  simpa using h

/-- The first space at i: that byte is 32, those before it are not. -/
theorem space_hit (s : ByteArray) (i : Nat) (h : indexB s ⟨#[32]⟩ = i) (hi : i < s.size) :
    ((s[i].toNat : Int) == 32) = true ∧ ∀ j, (hj : j < i) → ((s[j].toNat : Int) == 32) = false := by
  rw [indexB_one] at h
  obtain ⟨h1, h2⟩ := indexByte_first _ _ _ h
  rw [data_getElem? s i hi] at h1
  refine ⟨by simp at h1; simp [h1], fun j hj => ?_⟩
  have := byte_ne s j 32 (by omega) (h2 j hj)
  simp
  intro hn
  exact this (byte_eq_of_toNat (by simpa using hn))

theorem space_miss (s : ByteArray) (h : indexB s ⟨#[32]⟩ = -1) (j : Nat) (hj : j < s.size) : ((s[j].toNat : Int) == 32) = false := by
  rw [indexB_one] at h
  have := byte_ne s j 32 hj (indexByte_none _ _ h j)
  simp
  intro hn
  exact this (byte_eq_of_toNat (by simpa using hn))

/-! ### the walks -/
set_option maxHeartbeats 400000 in
theorem field_hit (s : ByteArray) (i : Nat) (m : Int) (w : World) (hs : s.size < 4294967281) (hix : indexB s ⟨#[32]⟩ = i) (hroom : i + 1 ≤ s.size) (hm : w.cell? ⟨0, 0, none⟩ = some (.int .i64 m)) :
    Calls Try.prog 25 #[.string s] w fun e w' => e = .returned (.tuple #[.string (s.extract 0 i), .string (s.extract (i + 1) s.size), .bool (decide (0 < i))]) ∧ ∃ n, w' = w.drewN n := by
  obtain ⟨e1, e2, e3⟩ := cutB_hit s ⟨#[32]⟩ i hix
  have H := Try.strings_Cut s ⟨#[32]⟩ m w hs hm
  rw [e1, e2, e3] at H
  clear e1 e2 e3
  have he := extract_empty s i (by omega)
  rw [← he]
  clear he
  go_enter Try.func25, Try.ntmps25
  go_wp2_with (go_at_call 27; refine H.mono ?_; rintro e w' ⟨rfl, n, rfl⟩)
  go_ret3
  exact ⟨rfl, n, rfl⟩

set_option maxHeartbeats 400000 in
theorem field_miss (s : ByteArray) (m : Int) (w : World) (hs : s.size < 4294967281) (hix : indexB s ⟨#[32]⟩ = -1) (hm : w.cell? ⟨0, 0, none⟩ = some (.int .i64 m)) :
    Calls Try.prog 25 #[.string s] w fun e w' => e = .returned (.tuple #[.string s, .string ByteArray.empty, .bool false]) ∧ ∃ n, w' = w.drewN n := by
  obtain ⟨e1, e2, e3⟩ := cutB_miss s ⟨#[32]⟩ hix
  have H := Try.strings_Cut s ⟨#[32]⟩ m w hs hm
  rw [e1, e2, e3] at H
  clear e1 e2 e3
  go_enter Try.func25, Try.ntmps25
  go_wp2_with (go_at_call 27; refine H.mono ?_; rintro e w' ⟨rfl, n, rfl⟩)
  go_ret3
  exact ⟨rfl, n, rfl⟩

set_option maxHeartbeats 400000 in
theorem zzfield_hit (s : ByteArray) (i : Nat) (m : Int) (w : World) (hs : s.size < 4294967281) (hix : indexB s ⟨#[32]⟩ = i) (hroom : i + 1 ≤ s.size) (hm : w.cell? ⟨0, 0, none⟩ = some (.int .i64 m)) :
    Calls Try.prog 15 #[.string s] w fun e w' => e = .returned (.tuple #[.string (s.extract 0 i), .string (s.extract (i + 1) s.size), .bool (decide (0 < i))]) ∧ ∃ n, w' = w.drewN n := by
  have H := field_hit s i m w hs hix hroom hm
  go_enter Try.func15, Try.ntmps15
  go_wp2_with (go_at_call 25; refine H.mono ?_; rintro e w' ⟨rfl, n, rfl⟩)
  go_ret3
  exact ⟨rfl, n, rfl⟩

set_option maxHeartbeats 400000 in
theorem zzfield_miss (s : ByteArray) (m : Int) (w : World) (hs : s.size < 4294967281) (hix : indexB s ⟨#[32]⟩ = -1) (hm : w.cell? ⟨0, 0, none⟩ = some (.int .i64 m)) :
    Calls Try.prog 15 #[.string s] w fun e w' => e = .returned (.tuple #[.string s, .string ByteArray.empty, .bool false]) ∧ ∃ n, w' = w.drewN n := by
  have H := field_miss s m w hs hix hm
  go_enter Try.func15, Try.ntmps15
  go_wp2_with (go_at_call 25; refine H.mono ?_; rintro e w' ⟨rfl, n, rfl⟩)
  go_ret3
  exact ⟨rfl, n, rfl⟩

end Go.Proofs.Qxb6602736a

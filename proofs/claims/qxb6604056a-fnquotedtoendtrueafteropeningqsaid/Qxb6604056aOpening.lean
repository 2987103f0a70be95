/-
  The walk of FnQuotedToEndTrueAfterOpeningQ: too long; a backslash in the tail; none.
-/
import Derived.Test.Qxb6604056aRows
import Derived.Test.Qxb6604056aQuoted
import Derived.WalkKit
import Derived.WalkSpells
namespace Go.Proofs.Qxb6604056a
open Go.RowKit Go.Lib

theorem mem_bytes (f : ByteArray) (c : UInt8) (h : ∀ x, (hx : x < f.size) → f[x] ≠ c) : ∀ y ∈ f.data.toList, y ≠ c := by
  intro y hy
  obtain ⟨x, hx, rfl⟩ := List.mem_iff_getElem.1 hy
  have hs : x < f.size := by rw [size_eq]; exact hx
  exact h x hs

theorem join_data (p t : ByteArray) : (p ++ (⟨#[92, 69, 92, 81]⟩ : ByteArray) ++ t).data.toList = p.data.toList ++ ([92, 69, 92, 81] ++ t.data.toList) := by
  simp

theorem join_size (p t : ByteArray) : (p ++ (⟨#[92, 69, 92, 81]⟩ : ByteArray) ++ t).size = p.size + 4 + t.size := by
  rw [size_eq, join_data, size_eq p, size_eq t]; simp; omega

theorem zzb_opening (p t : ByteArray) (w : World) (hs : p.size + t.size ≤ 1048576) :
    Calls Try.prog 17 #[.string p, .string t] w fun e w' => e = .returned (.bool true) ∧ w' = w := by
  go_enter Try.func17, Try.ntmps17
  go_wp2
  go_ret
  exact ⟨rfl, rfl⟩

set_option maxHeartbeats 400000 in
theorem zzb_opening_long (p t : ByteArray) (w : World) (w0 : p.size ≤ maxLen) (w1 : t.size ≤ maxLen) (hs : ¬ p.size + t.size ≤ 1048576) :
    Calls Try.prog 17 #[.string p, .string t] w fun e w' => e = .returned (.bool false) ∧ w' = w := by
  unfold maxLen at w0 w1
  by_cases h1 : (1048576 : Int) < p.size
  · go_enter Try.func17, Try.ntmps17
    go_wp2
    go_ret
    exact ⟨rfl, rfl⟩
  · by_cases h2 : (1048576 : Int) < t.size
    · go_enter Try.func17, Try.ntmps17
      go_wp2
      go_ret
      exact ⟨rfl, rfl⟩
    · have h3 : (1048576 : Int) < (p.size : Int) + t.size := by omega
      go_enter Try.func17, Try.ntmps17
      go_wp2
      go_ret
      exact ⟨rfl, rfl⟩

theorem opening_long (p t : ByteArray) (w : World) (w0 : p.size ≤ maxLen) (w1 : t.size ≤ maxLen) (hs : ¬ p.size + t.size ≤ 1048576) :
    Calls Try.prog 6 #[.string p, .string t] w fun e w' => e = .returned (.bool true) ∧ w' = w := by
  have HB := zzb_opening_long p t w w0 w1 hs
  clear hs
  go_enter Try.func6, Try.ntmps6
  go_wp2_with (go_at_call 17; refine HB.mono ?_; rintro e w' ⟨rfl, rfl⟩)
  go_ret
  exact ⟨rfl, rfl⟩

set_option maxHeartbeats 400000 in
theorem opening_short (p t : ByteArray) (m : Int) (w : World) (hs : p.size + t.size ≤ 1048576) (hm : w.cell? ⟨0, 0, none⟩ = some (.int .i64 m)) :
    Calls Try.prog 6 #[.string p, .string t] w fun e w' => e = .returned (.bool true) ∧ w' = w := by
  have HB := zzb_opening p t w hs
  have hp : (p.size : Int) ≤ 1048576 := by omega
  have ht : (t.size : Int) ≤ 1048576 := by omega
  have hpt : (p.size : Int) + t.size ≤ 1048576 := by omega
  go_enter Try.func6, Try.ntmps6
  go_wp2_with (go_at_call 17; refine HB.mono ?_; rintro e w' ⟨rfl, rfl⟩)
  clear HB
  go_loop [5] (fun k => ∃ j : Nat, j ≤ t.size ∧ k = .int .i64 j ∧ Hid (∀ x, (hx : x < j) → ∀ hy : x < t.size, t[x] ≠ 92)) (fun k => t.size - (RowKit.intOf k).toNat)
  case atStart => exact ⟨0, Nat.zero_le _, rfl, fun x hx => by omega⟩
  case round =>
    obtain ⟨j, hj, rfl, HN⟩ := hrel
    by_cases hlt : j < t.size
    · by_cases hc : t[j] = 92
      · have g : ((t[j].toNat : Int) == 92) = true := by simp [hc]
        clear hc
        go_wp2
        go_ret
        exact ⟨rfl, rfl⟩
      · have g : ((t[j].toNat : Int) == 92) = false := by
          simp; intro hn; exact hc (byte_eq_of_toNat (by simpa using hn))
        have HN2 : Hid (∀ x, (hx : x < j + 1) → ∀ hy : x < t.size, t[x] ≠ 92) := fun x hx hy => by
          by_cases e : x = j
          · subst e; exact hc
          · exact HN.out x (by omega) hy
        clear hc HN
        go_wp2
        go_round
        case rel => exact ⟨j + 1, by omega, by go_num, HN2⟩
        case measure => simp [RowKit.intOf]; omega
    · have HJ := zzquoted_any (p ++ ⟨#[92, 69, 92, 81]⟩ ++ t) true m w' (by rw [join_size]; omega) (by
        rw [join_data]; exact sc_after_open _ _ (mem_bytes t 92 fun x hx => HN.out x (by omega) hx)) hm
      clear HN hm
      go_wp2_with (go_at_call 15; refine HJ.mono ?_; rintro e w' ⟨rfl, rfl⟩)
      go_ret
      exact ⟨rfl, rfl⟩

theorem opening_any (p t : ByteArray) (m : Int) (w : World) (w0 : p.size ≤ maxLen) (w1 : t.size ≤ maxLen) (hm : w.cell? ⟨0, 0, none⟩ = some (.int .i64 m)) :
    Calls Try.prog 6 #[.string p, .string t] w fun e w' => e = .returned (.bool true) ∧ Grown w w' := by
  have fin : Calls Try.prog 6 #[.string p, .string t] w fun e w' => e = .returned (.bool true) ∧ w' = w := by
    by_cases hs : p.size + t.size ≤ 1048576
    · exact opening_short p t m w hs hm
    · exact opening_long p t w w0 w1 hs
  refine fin.mono ?_
  rintro e w' ⟨he, rfl⟩
  exact ⟨he, Grown.refl _⟩

end Go.Proofs.Qxb6604056a

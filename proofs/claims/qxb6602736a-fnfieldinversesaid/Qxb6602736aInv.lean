/-
  The walk of FnFieldInverse: too long; a space in f; none: field of f, a space, r gives f and r back.
-/
import Derived.Test.Qxb6602736aRows
import Derived.Test.Qxb6602736aField
import Derived.WalkKit
import Derived.WalkSpells
namespace Go.Proofs.Qxb6602736a
open Go.RowKit Go.Lib

theorem indexByte_join : ∀ (l r : List UInt8) (c : UInt8), (∀ x ∈ l, x ≠ c) → indexByte (l ++ c :: r) c = (l.length : Int)
  | [], r, c, _ => by simp [indexByte]
  | b :: l, r, c, h => by
    have hb : b ≠ c := h b (by simp)
    have ih := indexByte_join l r c (fun x hx => h x (by simp [hx]))
    rw [List.cons_append]
    unfold indexByte
    rw [ih, if_neg (by simpa using hb), if_neg (by simp)]
    simp

theorem mem_bytes (f : ByteArray) (c : UInt8) (h : ∀ x, (hx : x < f.size) → f[x] ≠ c) : ∀ y ∈ f.data.toList, y ≠ c := by
  intro y hy
  obtain ⟨x, hx, rfl⟩ := List.mem_iff_getElem.1 hy
  have hs : x < f.size := by rw [size_eq]; exact hx
  exact h x hs

theorem join_data (f r : ByteArray) : (f ++ (⟨#[32]⟩ : ByteArray) ++ r).data.toList = f.data.toList ++ 32 :: r.data.toList := by
  simp

theorem join_size (f r : ByteArray) : (f ++ (⟨#[32]⟩ : ByteArray) ++ r).size = f.size + 1 + r.size := by
  rw [size_eq, join_data, size_eq f, size_eq r]; simp; omega

theorem bytes_ext (a b : ByteArray) (h : a.data.toList = b.data.toList) : a = b := by
  rw [← mk_data a, ← mk_data b, h]

theorem join_left (f r : ByteArray) : (f ++ (⟨#[32]⟩ : ByteArray) ++ r).extract 0 f.size = f := by
  apply bytes_ext
  rw [extract_data, join_data, List.drop_zero, Nat.sub_zero]
  exact List.take_left' (size_eq f).symm

theorem join_right (f r : ByteArray) : (f ++ (⟨#[32]⟩ : ByteArray) ++ r).extract (f.size + 1) (f ++ (⟨#[32]⟩ : ByteArray) ++ r).size = r := by
  apply bytes_ext
  rw [extract_to_end, join_data]
  have e : f.data.toList ++ 32 :: r.data.toList = (f.data.toList ++ [32]) ++ r.data.toList := by simp
  rw [e]
  exact List.drop_left' (by rw [List.length_append, ← size_eq]; rfl)

theorem zzfield_join (f r : ByteArray) (m : Int) (w : World) (hs : f.size + 1 + r.size < 4294967281) (hn : ∀ x, (hx : x < f.size) → f[x] ≠ 32) (hm : w.cell? ⟨0, 0, none⟩ = some (.int .i64 m)) :
    Calls Try.prog 15 #[.string (f ++ ⟨#[32]⟩ ++ r)] w fun e w' => e = .returned (.tuple #[.string f, .string r, .bool (!f.toList.isEmpty)]) ∧ ∃ n, w' = w.drewN n := by
  have hix : indexB (f ++ (⟨#[32]⟩ : ByteArray) ++ r) ⟨#[32]⟩ = (f.size : Int) := by
    rw [indexB_one, join_data, indexByte_join _ _ _ (mem_bytes f 32 hn), ← size_eq]
  have hz := join_size f r
  have H := zzfield_hit (f ++ (⟨#[32]⟩ : ByteArray) ++ r) f.size m w (by omega) hix (by omega) hm
  have he := extract_empty (f ++ (⟨#[32]⟩ : ByteArray) ++ r) f.size (by omega)
  rw [← he, join_left, join_right] at H
  exact H

theorem zzb_inv (f r : ByteArray) (w : World) (hs : f.size + r.size ≤ 1048576) :
    Calls Try.prog 16 #[.string f, .string r] w fun e w' => e = .returned (.bool true) ∧ w' = w := by
  go_enter Try.func16, Try.ntmps16
  go_wp2
  go_ret
  exact ⟨rfl, rfl⟩

set_option maxHeartbeats 400000 in
theorem inv_long (f r : ByteArray) (w : World) (w0 : f.size ≤ maxLen) (w1 : r.size ≤ maxLen) (hs : ¬ (f.size ≤ 524288 ∧ r.size ≤ 524288)) :
    Calls Try.prog 6 #[.string f, .string r] w fun e w' => e = .returned (.bool true) ∧ w' = w := by
  unfold maxLen at w0 w1
  by_cases h1 : (524288 : Int) < f.size
  · go_enter Try.func6, Try.ntmps6
    go_wp2
    all_goals go_ret
    all_goals exact ⟨rfl, rfl⟩
  · have h2 : (524288 : Int) < r.size := by omega
    go_enter Try.func6, Try.ntmps6
    go_wp2
    all_goals go_ret
    all_goals exact ⟨rfl, rfl⟩

set_option maxHeartbeats 400000 in
theorem inv_short (f r : ByteArray) (m : Int) (w : World) (hf : f.size ≤ 524288) (hr : r.size ≤ 524288) (hm : w.cell? ⟨0, 0, none⟩ = some (.int .i64 m)) :
    Calls Try.prog 6 #[.string f, .string r] w fun e w' => e = .returned (.bool true) ∧ ∃ n, w' = w.drewN n := by
  have HB := zzb_inv f r w (by omega)
  go_enter Try.func6, Try.ntmps6
  go_wp2_with (first | (go_at_call 16; refine HB.mono ?_; rintro e w' ⟨rfl, rfl⟩))
  clear HB
  go_loop [5] (fun k => ∃ j : Nat, j ≤ f.size ∧ k = .int .i64 j ∧ Hid (∀ x, (hx : x < j) → ∀ hy : x < f.size, f[x] ≠ 32)) (fun k => f.size - (RowKit.intOf k).toNat)
  case atStart => exact ⟨0, Nat.zero_le _, rfl, fun x hx => by omega⟩
  case round =>
    obtain ⟨j, hj, rfl, HN⟩ := hrel
    by_cases hlt : j < f.size
    · by_cases hc : f[j] = 32
      · have g : ((f[j].toNat : Int) == 32) = true := by simp [hc]
        clear hc
        go_wp2
        go_ret
        exact ⟨rfl, 0, rfl⟩
      · have g : ((f[j].toNat : Int) == 32) = false := by
          simp; intro hn; exact hc (byte_eq_of_toNat (by simpa using hn))
        have HN2 : Hid (∀ x, (hx : x < j + 1) → ∀ hy : x < f.size, f[x] ≠ 32) := fun x hx hy => by
          by_cases e : x = j
          · subst e; exact hc
          · exact HN.out x (by omega) hy
        clear hc HN
        go_wp2
        go_round
        case rel => exact ⟨j + 1, by omega, by go_num, HN2⟩
        case measure => simp [RowKit.intOf]; omega
    · have HJ := zzfield_join f r m w' (by omega) (fun x hx => HN.out x (by omega) hx) hm
      clear HN hm
      go_wp2_with (go_at_call 15; refine HJ.mono ?_; rintro e w' ⟨rfl, n, rfl⟩)
      go_ret
      exact ⟨rfl, n, rfl⟩

theorem inv_any (f r : ByteArray) (m : Int) (w : World) (w0 : f.size ≤ maxLen) (w1 : r.size ≤ maxLen) (hm : w.cell? ⟨0, 0, none⟩ = some (.int .i64 m)) :
    Calls Try.prog 6 #[.string f, .string r] w fun e w' => e = .returned (.bool true) ∧ Grown w w' := by
  by_cases hs : f.size ≤ 524288 ∧ r.size ≤ 524288
  · refine (inv_short f r m w hs.1 hs.2 hm).mono ?_
    rintro e w' ⟨he, n, rfl⟩
    exact ⟨he, Grown.refl w⟩
  · refine (inv_long f r w w0 w1 hs).mono ?_
    rintro e w' ⟨he, rfl⟩
    exact ⟨he, Grown.refl _⟩

end Go.Proofs.Qxb6602736a

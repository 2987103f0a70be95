/-
  The contracts of addColumn and its shim over strings.Cut's own, and the walk of FnAddColumnSuffixAfterSpace.
-/
import Derived.Test.Qxb6602985aRows
import Derived.Test.Qxb6602985aShelf
import Derived.WalkKit
import Derived.WalkSpells
import Derived.WalkSmall
import Derived.Deep.Draws
import Derived.Deep.QuietTactic
import Derived.BigQuiet
import Derived.Lib.CutLaws
import Derived.Lib.IndexBytes
namespace Go.Proofs.Qxb6602985a
open Go.RowKit Go.Lib

theorem cut_of (d c : ByteArray) (m : Int) (hs : d.size < 4294967281) (hc : (⟨(Lib.cut d.data.toList [32]).1.toArray⟩ : ByteArray) = c) (w : World) (hm : w.cell? ⟨0, 0, none⟩ = some (.int .i64 m)) :
    Calls Try.prog 7 #[.string d, .string ⟨#[32]⟩] w fun e w' => ∃ r : ByteArray, ∃ k : Bool, e = .returned (.tuple #[.string c, .string r, .bool k]) ∧ ∃ n, w' = w.drewN n := by
  refine (Try.strings_Cut d ⟨#[32]⟩ m w hs hm).mono ?_
  rintro e w' ⟨he, n, hw⟩
  refine ⟨⟨(Lib.cut d.data.toList [32]).2.1.toArray⟩, (Lib.cut d.data.toList [32]).2.2, ?_, n, hw⟩
  rw [he, ← hc]

def stmtOf (t d : ByteArray) : ByteArray := ⟨#[65, 76, 84, 69, 82, 32, 84, 65, 66, 76, 69, 32]⟩ ++ t ++ ⟨#[32, 65, 68, 68, 32, 67, 79, 76, 85, 77, 78, 32]⟩ ++ d
def presentOf (t c : ByteArray) : ByteArray := ⟨#[83, 69, 76, 69, 67, 84, 32]⟩ ++ c ++ ⟨#[32, 70, 82, 79, 77, 32]⟩ ++ t ++ ⟨#[32, 87, 72, 69, 82, 69, 32, 49, 32, 61, 32, 48]⟩

set_option maxHeartbeats 400000 in
theorem add_any (t d c : ByteArray) (m : Int) (w : World) (ht : t.size ≤ 65536) (hd : d.size ≤ 200000) (hcd : c.size ≤ 200000) (hc : Hid ((⟨(Lib.cut d.data.toList [32]).1.toArray⟩ : ByteArray) = c)) (hm : w.cell? ⟨0, 0, none⟩ = some (.int .i64 m)) :
    Calls Try.prog 6 #[.string t, .string d] w fun e w' => e = .returned (.agg #[.string (stmtOf t d), .string (presentOf t c)]) ∧ Below w.heap.size w w' := by
  have hs : d.size < 4294967281 := by omega
  go_enter Try.func6, Try.ntmps6
  go_wp2_with (go_at_call 7; refine (cut_of d c m hs hc.out _ (cell_later ((Below.refl _ _).alloc (Nat.le_refl _) _) hm)).mono ?_; rintro e w' ⟨r, k, rfl, n, rfl⟩)
  refine bodyPost_ret (v := .agg #[.string (stmtOf t d), .string (presentOf t c)]) (by simp [results, Try.results6, go_sem, stmtOf, presentOf]) rfl ⟨rfl, ?_⟩
  exact ((below_drewN ((Below.refl _ _).alloc (Nat.le_refl _) _) n).setCell (by simp) _).setCell (by simp) _

set_option maxHeartbeats 400000 in
theorem zzadd_any (t d c : ByteArray) (m : Int) (w : World) (ht : t.size ≤ 65536) (hd : d.size ≤ 200000) (hcd : c.size ≤ 200000) (hc : Hid ((⟨(Lib.cut d.data.toList [32]).1.toArray⟩ : ByteArray) = c)) (hm : w.cell? ⟨0, 0, none⟩ = some (.int .i64 m)) :
    Calls Try.prog 5 #[.string t, .string d] w fun e w' => e = .returned (.tuple #[.string (stmtOf t d), .string (presentOf t c)]) ∧ Below w.heap.size w w' := by
  have H := add_any t d c m w ht hd hcd hc hm
  clear hc hm
  go_enter Try.func5, Try.ntmps5
  go_wp2_with (go_at_call 6; refine H.mono ?_; rintro e w1 ⟨rfl, hb⟩)
  go_quiet (fail)
  go_wp2
  go_ret2
  exact ⟨rfl, below_drewN (hb.alloc hb.size _) _⟩


/-! ### plain: the first word -/
theorem indexByte_first_word : ∀ (l r : List UInt8) (c : UInt8), indexByte (l ++ c :: r) c = ((l.takeWhile (· != c)).length : Int)
  | [], r, c => by simp [indexByte]
  | b :: l, r, c => by
    have ih := indexByte_first_word l r c
    rw [List.cons_append]
    unfold indexByte
    by_cases hb : b = c
    · subst hb; simp
    · rw [ih, if_neg (by simpa using hb), if_neg (by simp)]
      simp [hb]

theorem cut_first_word (l r : List UInt8) (c : UInt8) : (Lib.cut (l ++ c :: r) [c]).1 = l.takeWhile (· != c) := by
  unfold Lib.cut
  rw [index_one, indexByte_first_word, if_pos (by omega)]
  show List.take _ (l ++ c :: r) = _
  obtain ⟨x, hx⟩ := List.takeWhile_prefix (l := l) (· != c)
  rw [Int.toNat_natCast]
  have e : l ++ c :: r = l.takeWhile (· != c) ++ (x ++ c :: r) := by
    rw [← List.append_assoc, hx]
  rw [e]
  exact List.take_left' rfl

theorem cut_fst_le (l sep : List UInt8) : (Lib.cut l sep).1.length ≤ l.length := by
  unfold Lib.cut
  split <;> simp [List.length_take]
  omega

theorem bytes_ext (a b : ByteArray) (h : a.data.toList = b.data.toList) : a = b := by
  rw [← mk_data a, ← mk_data b, h]

theorem stmt_join (t d r : ByteArray) : stmtOf t (d ++ ⟨#[32]⟩ ++ r) = stmtOf t d ++ ⟨#[32]⟩ ++ r := by
  apply bytes_ext
  simp [stmtOf]

theorem first_join (d r : ByteArray) : (Lib.cut (d ++ (⟨#[32]⟩ : ByteArray) ++ r).data.toList [32]).1 = (Lib.cut (d ++ (⟨#[32]⟩ : ByteArray)).data.toList [32]).1 := by
  have e1 : (d ++ (⟨#[32]⟩ : ByteArray) ++ r).data.toList = d.data.toList ++ 32 :: r.data.toList := by simp
  have e2 : (d ++ (⟨#[32]⟩ : ByteArray)).data.toList = d.data.toList ++ 32 :: [] := by simp
  rw [e1, e2, cut_first_word, cut_first_word]

theorem first_size (d : ByteArray) : (⟨(Lib.cut d.data.toList [32]).1.toArray⟩ : ByteArray).size ≤ d.size := by
  have h := cut_fst_le d.data.toList [32]
  rw [← size_eq] at h
  have e : (⟨(Lib.cut d.data.toList [32]).1.toArray⟩ : ByteArray).size = (Lib.cut d.data.toList [32]).1.length := by
    rw [size_eq]
  omega

theorem stmt_size (t d : ByteArray) : (stmtOf t d).size = 24 + t.size + d.size := by
  simp [stmtOf, ByteArray.size_append]
  show 12 + t.size + 12 = _
  omega

/-! ### the law's walk -/
theorem zzb_any (t d r : ByteArray) (w : World) (hs : t.size + d.size + r.size ≤ 1048576) :
    Calls Try.prog 4 #[.string t, .string d, .string r] w fun e w' => e = .returned (.bool true) ∧ w' = w := by
  go_enter Try.func4, Try.ntmps4
  go_wp2
  go_ret
  exact ⟨rfl, rfl⟩

set_option maxHeartbeats 1000000 in
theorem law_long (t d r : ByteArray) (w : World) (w0 : t.size ≤ maxLen) (w1 : d.size ≤ maxLen) (w2 : r.size ≤ maxLen) (hs : ¬ (t.size ≤ 65536 ∧ d.size ≤ 65536 ∧ r.size ≤ 65536)) :
    Calls Try.prog 3 #[.string t, .string d, .string r] w fun e w' => e = .returned (.bool true) ∧ w' = w := by
  unfold maxLen at w0 w1 w2
  by_cases h1 : (65536 : Int) < t.size
  · clear hs
    go_enter Try.func3, Try.ntmps3
    go_wp2
    all_goals go_ret
    all_goals exact ⟨rfl, rfl⟩
  · by_cases h2 : (65536 : Int) < d.size
    · clear hs
      go_enter Try.func3, Try.ntmps3
      go_wp2
      all_goals go_ret
      all_goals exact ⟨rfl, rfl⟩
    · have h3 : (65536 : Int) < r.size := by omega
      clear hs
      go_enter Try.func3, Try.ntmps3
      go_wp2
      all_goals go_ret
      all_goals exact ⟨rfl, rfl⟩

set_option maxHeartbeats 1000000 in
theorem law_core (t d r S P Q : ByteArray) (w : World) (ht : t.size ≤ 65536) (hd : d.size ≤ 65536) (hr : r.size ≤ 65536) (hS : S.size ≤ 300000)
    (H1 : Calls Try.prog 5 #[.string t, .string (d ++ ⟨#[32]⟩ ++ r)] w fun e w' => e = .returned (.tuple #[.string (S ++ ⟨#[32]⟩ ++ r), .string P]) ∧ Below w.heap.size w w')
    (H2 : ∀ w1, Below w.heap.size w w1 → Calls Try.prog 5 #[.string t, .string d] w1 fun e w' => e = .returned (.tuple #[.string S, .string Q]) ∧ Below w.heap.size w w')
    (H3 : ∀ w1, Below w.heap.size w w1 → Calls Try.prog 5 #[.string t, .string (d ++ ⟨#[32]⟩)] w1 fun e w' => (∃ R : ByteArray, e = .returned (.tuple #[.string R, .string P])) ∧ Below w.heap.size w w') :
    Calls Try.prog 3 #[.string t, .string d, .string r] w fun e w' => e = .returned (.bool true) ∧ Below w.heap.size w w' := by
  have HB := zzb_any t d r w (by omega)
  have K1 : Hid _ := H1
  have K2 : Hid _ := H2
  have K3 : Hid _ := H3
  clear H1 H2 H3
  go_enter Try.func3, Try.ntmps3
  go_wp2_with (go_at_call 4; refine HB.mono ?_; rintro e w' ⟨rfl, rfl⟩)
  refine Calls.mono K1.out ?_
  rintro e wa ⟨rfl, ha⟩
  go_wp2_with fail
  refine Calls.mono (K2.out _ ha) ?_
  rintro e wb ⟨rfl, hb⟩
  go_wp2_with fail
  refine Calls.mono (K3.out _ hb) ?_
  rintro e wc ⟨⟨R, rfl⟩, hc⟩
  go_wp2
  go_ret
  exact ⟨rfl, hc⟩

theorem law_any (t d r : ByteArray) (m : Int) (w : World) (w0 : t.size ≤ maxLen) (w1 : d.size ≤ maxLen) (w2 : r.size ≤ maxLen) (hm : w.cell? ⟨0, 0, none⟩ = some (.int .i64 m)) :
    Calls Try.prog 3 #[.string t, .string d, .string r] w fun e w' => e = .returned (.bool true) ∧ Below w.heap.size w w' := by
  by_cases hs : t.size ≤ 65536 ∧ d.size ≤ 65536 ∧ r.size ≤ 65536
  · obtain ⟨ht, hd, hr⟩ := hs
    have z1 : (d ++ (⟨#[32]⟩ : ByteArray) ++ r).size ≤ 200000 := by
      simp [ByteArray.size_append]
      show d.size + 1 + r.size ≤ _
      omega
    have z2 : (d ++ (⟨#[32]⟩ : ByteArray)).size ≤ 200000 := by
      simp [ByteArray.size_append]
      show d.size + 1 ≤ _
      omega
    have f2 := first_size (d ++ (⟨#[32]⟩ : ByteArray))
    have f3 := first_size d
    refine law_core t d r (stmtOf t d) (presentOf t ⟨(Lib.cut (d ++ (⟨#[32]⟩ : ByteArray)).data.toList [32]).1.toArray⟩) (presentOf t ⟨(Lib.cut d.data.toList [32]).1.toArray⟩) w ht hd hr (by rw [stmt_size]; omega) ?_ ?_ ?_
    · have H := zzadd_any t (d ++ (⟨#[32]⟩ : ByteArray) ++ r) ⟨(Lib.cut (d ++ (⟨#[32]⟩ : ByteArray)).data.toList [32]).1.toArray⟩ m w ht z1 (by omega) (by rw [first_join]; exact rfl) hm
      rw [stmt_join] at H
      exact H
    · intro w1 hb
      refine (zzadd_any t d ⟨(Lib.cut d.data.toList [32]).1.toArray⟩ m w1 ht (by omega) (by omega) rfl (cell_later hb hm)).mono ?_
      rintro e w' ⟨he, hb2⟩
      exact ⟨he, hb.trans (hb2.mono hb.size)⟩
    · intro w1 hb
      refine (zzadd_any t (d ++ (⟨#[32]⟩ : ByteArray)) ⟨(Lib.cut (d ++ (⟨#[32]⟩ : ByteArray)).data.toList [32]).1.toArray⟩ m w1 ht z2 (by omega) rfl (cell_later hb hm)).mono ?_
      rintro e w' ⟨he, hb2⟩
      exact ⟨⟨_, he⟩, hb.trans (hb2.mono hb.size)⟩
  · refine (law_long t d r w w0 w1 w2 hs).mono ?_
    rintro e w' ⟨he, rfl⟩
    exact ⟨he, Below.refl _ _⟩

end Go.Proofs.Qxb6602985a

/-
  The contract of labelSuffix: does one list of labels end with the other?
-/
import Derived.Test.Qxb6602915aRows
import Derived.Test.Qxb6602915aPlain
import Derived.WalkKit
import Derived.WalkSpells
import Derived.WalkSmall
import Derived.Deep.Draws
import Derived.Deep.QuietTactic
import Derived.BigQuiet
import Derived.Lib.Strings
namespace Go.Proofs.Qxb6602915a
open Go.RowKit Go.Lib

theorem suf_short (a b : List (List UInt8)) (h : a.length < b.length) : suf a b = false := by
  unfold suf
  simp; intro h2; omega

theorem suf_parts (a b : List (List UInt8)) (d : Nat) (hl : a.length = d + b.length) (h : suf a b = true) (k : Nat) : a.getD (d + k) [] = b.getD k [] := by
  obtain ⟨p, rfl⟩ := (suf_iff a b).1 h
  have : d = p.length := by simp at hl; omega
  subst this
  simp [List.getD_eq_getElem?_getD, List.getElem?_append_right]

theorem suf_whole (a b : List (List UInt8)) (d : Nat) (hl : a.length = d + b.length) (h : ∀ k, k < b.length → a.getD (d + k) [] = b.getD k []) : suf a b = true := by
  unfold suf
  have e : a.length - b.length = d := by omega
  rw [e]
  simp only [Bool.and_eq_true, decide_eq_true_eq, beq_iff_eq]
  refine ⟨by omega, ?_⟩
  apply List.ext_getElem
  · simp; omega
  · intro i h1 h2
    have := h i h2
    simp [List.getD_eq_getElem?_getD] at this ⊢
    rw [List.getElem?_eq_getElem (by omega), List.getElem?_eq_getElem h2] at this
    simpa using this

theorem drewN_both (w : World) (a b : Nat) : ∃ k, (w.drewN a).drewN b = w.drewN k := ⟨a + b, by simp [World.drewN, Nat.add_assoc]⟩

theorem suffix_short (ga gb la lb ca cb : Nat) (w : World) (h : la < lb) :
    Calls Try.prog 12 #[.slice (some ⟨ga, 0, none⟩) la ca, .slice (some ⟨gb, 0, none⟩) lb cb] w fun e w' => e = .returned (.bool false) ∧ w' = w := by
  have h1 : (la : Int) < lb := by omega
  go_enter Try.func12, Try.ntmps12
  go_wp2
  go_ret
  exact ⟨rfl, rfl⟩

set_option maxHeartbeats 400000 in
theorem suffix_long (ga gb d lb ca cb : Nat) (A B : List (List UInt8)) (r : Bool) (w : World) (hb : d + lb ≤ 1000000) (hA : A.length = d + lb) (hB : B.length = lb) (hr : Hid (suf A B = r))
    (hca : ∀ i, i < A.length → w.cell? ⟨ga, i, none⟩ = some (.string ⟨(A.getD i []).toArray⟩)) (hcb : ∀ i, i < B.length → w.cell? ⟨gb, i, none⟩ = some (.string ⟨(B.getD i []).toArray⟩)) :
    Calls Try.prog 12 #[.slice (some ⟨ga, 0, none⟩) (d + lb) ca, .slice (some ⟨gb, 0, none⟩) lb cb] w fun e w' => e = .returned (.bool r) ∧ ∃ k, w' = w.drewN k := by
  have HA : Hid (A.length = d + lb) := hA
  have HB : Hid (B.length = lb) := hB
  have KA : Hid _ := hca
  have KB : Hid _ := hcb
  clear hA hB hca hcb
  go_enter Try.func12, Try.ntmps12
  go_wp2
  go_loopw [6] (fun i wr => ∃ k : Nat, k ≤ lb ∧ i = .int .i64 k ∧ Hid (∀ j, j < k → A.getD (d + j) [] = B.getD j []) ∧ ∃ m, wr = w.drewN m) (fun i _ => lb - (RowKit.intOf i).toNat)
  case atStart => exact ⟨0, Nat.zero_le _, rfl, fun j hj => by omega, 0, rfl⟩
  case round =>
    obtain ⟨k, hk, rfl, HK, m, rfl⟩ := hrel
    by_cases hlt : k < lb
    · have c1 : w.cell? ⟨ga, d + k, none⟩ = some (.string ⟨(A.getD (d + k) []).toArray⟩) := KA.out _ (by rw [HA.out]; omega)
      have c2 : w.cell? ⟨gb, k, none⟩ = some (.string ⟨(B.getD k []).toArray⟩) := KB.out _ (by rw [HB.out]; omega)
      obtain ⟨x, hx⟩ : ∃ x, Hid (A.getD (d + k) [] = x) := ⟨_, rfl⟩
      obtain ⟨y, hy⟩ : ∃ y, Hid (B.getD k [] = y) := ⟨_, rfl⟩
      rw [hx.out] at c1
      rw [hy.out] at c2
      have i1 : (0 : Int) ≤ (d : Int) + k := by omega
      have i2 : (d : Int) + k < (d : Int) + lb := by omega
      have i3 : (k : Int) < lb := by omega
      by_cases he : x = y
      · have g : (x == y) = true := beq_iff_eq.2 he
        have HK2 : Hid (∀ j, j < k + 1 → A.getD (d + j) [] = B.getD j []) := fun j hj => by
          by_cases e : j = k
          · subst e; rw [hx.out, hy.out, he]
          · exact HK.out j (by omega)
        clear he HK
        go_wp2
        go_quiet (fail)
        go_wp2
        go_roundw
        case rel => exact ⟨k + 1, by omega, by go_num, HK2, _, rfl⟩
        case measure => simp [RowKit.intOf]; omega
      · have g : (x == y) = false := beq_eq_false_iff_ne.2 he
        have hrf : r = false := by
          rw [← hr.out]
          cases h : suf A B
          · rfl
          · have := suf_parts A B d (by rw [HA.out, HB.out]) h k
            rw [hx.out, hy.out] at this
            exact absurd this he
        subst hrf
        clear he HK
        go_wp2
        go_quiet (fail)
        go_wp2
        go_ret
        exact ⟨rfl, drewN_both _ _ _⟩
    · have hrt : r = true := by
        rw [← hr.out]
        exact suf_whole A B d (by rw [HA.out, HB.out]) fun j hj => HK.out j (by rw [HB.out] at hj; omega)
      subst hrt
      clear HK
      go_wp2
      go_ret
      exact ⟨rfl, m, rfl⟩

end Go.Proofs.Qxb6602915a

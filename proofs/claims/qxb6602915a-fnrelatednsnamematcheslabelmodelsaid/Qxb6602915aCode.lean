/-
  The contracts of the code under test: below, relationOf, relateDNSName, and the shim ZZRelateDNSName.
-/
import Derived.Test.Qxb6602915aRows
import Derived.Test.Qxb6602915aShelf
import Derived.Test.Qxb6602915aPlain
import Derived.WalkKit
import Derived.WalkSpells
import Derived.WalkSmall
import Derived.Deep.Draws
import Derived.Deep.QuietTactic
import Derived.BigQuiet
import Derived.Lib.Strings
namespace Go.Proofs.Qxb6602915a
open Go.RowKit Go.Lib

set_option maxHeartbeats 400000 in
theorem below_any (n s : ByteArray) (w : World) (hn : n.size ≤ 1000000) :
    Calls Try.prog 14 #[.string n, .string s] w fun e w' => e = .returned (.bool (belowB n.data.toList s.data.toList)) ∧ w' = w := by
  have H := Try.strings_CutSuffix n s w (by omega)
  have HS := Try.strings_HasSuffix ⟨(Lib.trimSuffix n.data.toList s.data.toList).toArray⟩ ⟨#[46]⟩ w (by
    have := Lib.trimSuffix_le n.data.toList s.data.toList
    rw [← size_eq] at this
    rw [size_eq]
    show (Lib.trimSuffix n.data.toList s.data.toList).length ≤ _
    omega)
  cases hx : Lib.hasSuffix n.data.toList s.data.toList
  · have e : belowB n.data.toList s.data.toList = false := by unfold belowB; rw [hx]; rfl
    rw [e]
    rw [hx] at H
    clear hx e
    go_enter Try.func14, Try.ntmps14
    go_wp2_with (first | (go_at_call 16; refine H.mono ?_; rintro e w' ⟨rfl, rfl⟩) | (go_at_call 17; refine HS.mono ?_; rintro e w' ⟨rfl, rfl⟩))
    go_ret
    exact ⟨rfl, rfl⟩
  · have e : belowB n.data.toList s.data.toList = Lib.hasSuffix (Lib.trimSuffix n.data.toList s.data.toList) [46] := by unfold belowB; rw [hx]; rfl
    rw [e]
    rw [hx] at H
    clear hx e
    go_enter Try.func14, Try.ntmps14
    go_wp2_with (first | (go_at_call 16; refine H.mono ?_; rintro e w' ⟨rfl, rfl⟩) | (go_at_call 17; refine HS.mono ?_; rintro e w' ⟨rfl, rfl⟩))
    go_ret
    exact ⟨rfl, rfl⟩

theorem relation_any (b : Bool) (w : World) :
    Calls Try.prog 13 #[.bool b] w fun e w' => e = .returned (.int .i64 (relI b)) ∧ w' = w := by
  cases b
  · go_enter Try.func13, Try.ntmps13
    go_wp2
    go_ret
    exact ⟨rfl, rfl⟩
  · go_enter Try.func13, Try.ntmps13
    go_wp2
    go_ret
    exact ⟨rfl, rfl⟩

theorem count_any (s : ByteArray) (w : World) :
    Calls Try.prog 15 #[.string s, .string ⟨#[46]⟩] w fun e w' => e = .returned (.int .i64 (s.data.toList.count 46 : Nat)) ∧ w' = w := by
  refine (Try.strings_Count_one s 46 w).mono ?_
  rintro e w' ⟨rfl, rfl⟩
  exact ⟨rfl, rfl⟩

theorem drewN_two (w : World) (a b : Nat) : ∃ k, (w.drewN a).drewN b = w.drewN k := ⟨a + b, by simp [World.drewN, Nat.add_assoc]⟩

section
variable (p q : Nat) (s n : ByteArray) (w : World)

set_option maxHeartbeats 400000 in
theorem relate_empty (hse : s.toList.isEmpty = true) (h6 : w.cell? ⟨p, 6, none⟩ = some (.string s)) :
    Calls Try.prog 10 #[.pointer (some ⟨p, 0, none⟩), .pointer (some ⟨q, 0, none⟩)] w fun e w' => e = .returned (.int .i64 1) ∧ ∃ k, w' = w.drewN k := by
  go_enter Try.func10, Try.ntmps10
  go_wp2
  go_ret
  exact ⟨rfl, 0, rfl⟩

/-- No wildcard; the same name, and the subtree holds it. -/
theorem relate_one (hse : s.toList.isEmpty = false) (he : (n.toList == s.toList) = true)
    (h6 : w.cell? ⟨p, 6, none⟩ = some (.string s)) (h7 : w.cell? ⟨p, 7, none⟩ = some (.bool false)) (g5 : w.cell? ⟨q, 5, none⟩ = some (.string n)) (g6 : w.cell? ⟨q, 6, none⟩ = some (.bool false)) :
    Calls Try.prog 10 #[.pointer (some ⟨p, 0, none⟩), .pointer (some ⟨q, 0, none⟩)] w fun e w' => e = .returned (.int .i64 (relI true)) ∧ ∃ k, w' = w.drewN k := by
  go_enter Try.func10, Try.ntmps10
  go_wp2
  go_quiet ((go_at_call 13; exact Calls.quiet_of_same (relation_any _ _)))
  go_wp2
  go_ret
  exact ⟨rfl, _, rfl⟩

/-- No wildcard; the same name, and the subtree lies below it. -/
theorem relate_two (hn : n.size ≤ 1000000) (hse : s.toList.isEmpty = false) (he : (n.toList == s.toList) = true)
    (h6 : w.cell? ⟨p, 6, none⟩ = some (.string s)) (h7 : w.cell? ⟨p, 7, none⟩ = some (.bool true)) (g5 : w.cell? ⟨q, 5, none⟩ = some (.string n)) (g6 : w.cell? ⟨q, 6, none⟩ = some (.bool false)) :
    Calls Try.prog 10 #[.pointer (some ⟨p, 0, none⟩), .pointer (some ⟨q, 0, none⟩)] w fun e w' => e = .returned (.int .i64 (relI (belowB n.data.toList s.data.toList))) ∧ ∃ k, w' = w.drewN k := by
  go_enter Try.func10, Try.ntmps10
  go_wp2
  go_quiet ((first | (go_at_call 13; exact Calls.quiet_of_same (relation_any _ _)) | (go_at_call 14; exact Calls.quiet_of_same (below_any _ _ _ hn))))
  go_wp2
  go_ret
  exact ⟨rfl, _, rfl⟩

/-- No wildcard; another name. -/
theorem relate_three (hn : n.size ≤ 1000000) (hse : s.toList.isEmpty = false) (he : (n.toList == s.toList) = false)
    (h6 : w.cell? ⟨p, 6, none⟩ = some (.string s)) (g5 : w.cell? ⟨q, 5, none⟩ = some (.string n)) (g6 : w.cell? ⟨q, 6, none⟩ = some (.bool false)) :
    Calls Try.prog 10 #[.pointer (some ⟨p, 0, none⟩), .pointer (some ⟨q, 0, none⟩)] w fun e w' => e = .returned (.int .i64 (relI (belowB n.data.toList s.data.toList))) ∧ ∃ k, w' = w.drewN k := by
  go_enter Try.func10, Try.ntmps10
  go_wp2
  go_quiet ((first | (go_at_call 13; exact Calls.quiet_of_same (relation_any _ _)) | (go_at_call 14; exact Calls.quiet_of_same (below_any _ _ _ hn))))
  go_wp2
  go_ret
  exact ⟨rfl, _, rfl⟩

/-- A wildcard; the same name. -/
theorem relate_four (hse : s.toList.isEmpty = false) (he : (n.toList == s.toList) = true)
    (h6 : w.cell? ⟨p, 6, none⟩ = some (.string s)) (g5 : w.cell? ⟨q, 5, none⟩ = some (.string n)) (g6 : w.cell? ⟨q, 6, none⟩ = some (.bool true)) :
    Calls Try.prog 10 #[.pointer (some ⟨p, 0, none⟩), .pointer (some ⟨q, 0, none⟩)] w fun e w' => e = .returned (.int .i64 1) ∧ ∃ k, w' = w.drewN k := by
  go_enter Try.func10, Try.ntmps10
  go_wp2
  go_quiet (fail)
  go_wp2
  go_ret
  exact ⟨rfl, _, rfl⟩

theorem below_is (n s : ByteArray) (w : World) (hn : n.size ≤ 1000000) (x : Bool) (hx : Hid (belowB n.data.toList s.data.toList = x)) :
    Calls Try.prog 14 #[.string n, .string s] w fun e w' => e = .returned (.bool x) ∧ w' = w := by
  rw [← hx.out]; exact below_any n s w hn

theorem count_is (s : ByteArray) (w : World) (c : Nat) (hc : Hid (s.data.toList.count 46 = c)) :
    Calls Try.prog 15 #[.string s, .string ⟨#[46]⟩] w fun e w' => e = .returned (.int .i64 (c : Nat)) ∧ w' = w := by
  rw [← hc.out]; exact count_any s w

/-- A wildcard; below. -/
theorem relate_five (hn : n.size ≤ 1000000) (hse : s.toList.isEmpty = false) (he : (n.toList == s.toList) = false) (hb : Hid (belowB n.data.toList s.data.toList = true))
    (h6 : w.cell? ⟨p, 6, none⟩ = some (.string s)) (g5 : w.cell? ⟨q, 5, none⟩ = some (.string n)) (g6 : w.cell? ⟨q, 6, none⟩ = some (.bool true)) :
    Calls Try.prog 10 #[.pointer (some ⟨p, 0, none⟩), .pointer (some ⟨q, 0, none⟩)] w fun e w' => e = .returned (.int .i64 1) ∧ ∃ k, w' = w.drewN k := by
  go_enter Try.func10, Try.ntmps10
  go_wp2
  go_quiet ((go_at_call 14; exact Calls.quiet_of_same (below_is _ _ _ hn true hb)))
  go_wp2
  go_ret
  exact ⟨rfl, _, rfl⟩

/-- A wildcard; not below; the subtree lies below its own name. -/
theorem relate_six (hn : n.size ≤ 1000000) (hse : s.toList.isEmpty = false) (he : (n.toList == s.toList) = false) (hb : Hid (belowB n.data.toList s.data.toList = false))
    (h6 : w.cell? ⟨p, 6, none⟩ = some (.string s)) (h7 : w.cell? ⟨p, 7, none⟩ = some (.bool true)) (g5 : w.cell? ⟨q, 5, none⟩ = some (.string n)) (g6 : w.cell? ⟨q, 6, none⟩ = some (.bool true)) :
    Calls Try.prog 10 #[.pointer (some ⟨p, 0, none⟩), .pointer (some ⟨q, 0, none⟩)] w fun e w' => e = .returned (.int .i64 0) ∧ ∃ k, w' = w.drewN k := by
  go_enter Try.func10, Try.ntmps10
  go_wp2
  go_quiet ((go_at_call 14; exact Calls.quiet_of_same (below_is _ _ _ hn false hb)))
  go_wp2
  go_quiet (fail)
  go_wp2
  go_ret
  exact ⟨rfl, drewN_two _ _ _⟩

/-- A wildcard; not below; the subtree's name is not below the name either. -/
theorem relate_seven (hn : n.size ≤ 1000000) (hs : s.size ≤ 1000000) (hse : s.toList.isEmpty = false) (he : (n.toList == s.toList) = false) (hb : Hid (belowB n.data.toList s.data.toList = false)) (hc : Hid (belowB s.data.toList n.data.toList = false))
    (h6 : w.cell? ⟨p, 6, none⟩ = some (.string s)) (h7 : w.cell? ⟨p, 7, none⟩ = some (.bool false)) (g5 : w.cell? ⟨q, 5, none⟩ = some (.string n)) (g6 : w.cell? ⟨q, 6, none⟩ = some (.bool true)) :
    Calls Try.prog 10 #[.pointer (some ⟨p, 0, none⟩), .pointer (some ⟨q, 0, none⟩)] w fun e w' => e = .returned (.int .i64 0) ∧ ∃ k, w' = w.drewN k := by
  go_enter Try.func10, Try.ntmps10
  go_wp2
  go_quiet ((go_at_call 14; exact Calls.quiet_of_same (below_is n s _ hn false hb)))
  go_wp2
  generalize hw2 : w.drewN nq = w2
  have k6 : w2.cell? ⟨p, 6, none⟩ = some (.string s) := by rw [← hw2]; exact h6
  have k7 : w2.cell? ⟨p, 7, none⟩ = some (.bool false) := by rw [← hw2]; exact h7
  have k5 : w2.cell? ⟨q, 5, none⟩ = some (.string n) := by rw [← hw2]; exact g5
  have HW : Hid (w2 = w.drewN nq) := hw2.symm
  clear hw2 h6 h7 g5 g6 hb
  go_quiet ((go_at_call 14; exact Calls.quiet_of_same (below_is s n _ hs false hc)))
  go_wp2
  go_ret
  exact ⟨rfl, by rw [HW.out]; exact drewN_two _ _ _⟩

/-- A wildcard; not below; the subtree's name is below the name: by one label, or by more. -/
theorem relate_eight (cs cn : Nat) (hn : n.size ≤ 1000000) (hs : s.size ≤ 1000000) (hse : s.toList.isEmpty = false) (he : (n.toList == s.toList) = false) (hb : Hid (belowB n.data.toList s.data.toList = false)) (hc : Hid (belowB s.data.toList n.data.toList = true))
    (hcs : Hid (s.data.toList.count 46 = cs)) (hcn : Hid (n.data.toList.count 46 = cn)) (hcb : cn ≤ 1000000) (hone : ((cs : Int) == (cn : Int) + 1) = true)
    (h6 : w.cell? ⟨p, 6, none⟩ = some (.string s)) (h7 : w.cell? ⟨p, 7, none⟩ = some (.bool false)) (g5 : w.cell? ⟨q, 5, none⟩ = some (.string n)) (g6 : w.cell? ⟨q, 6, none⟩ = some (.bool true)) :
    Calls Try.prog 10 #[.pointer (some ⟨p, 0, none⟩), .pointer (some ⟨q, 0, none⟩)] w fun e w' => e = .returned (.int .i64 2) ∧ ∃ k, w' = w.drewN k := by
  go_enter Try.func10, Try.ntmps10
  go_wp2
  go_quiet ((go_at_call 14; exact Calls.quiet_of_same (below_is n s _ hn false hb)))
  go_wp2
  generalize hw2 : w.drewN nq = w2
  have k6 : w2.cell? ⟨p, 6, none⟩ = some (.string s) := by rw [← hw2]; exact h6
  have k7 : w2.cell? ⟨p, 7, none⟩ = some (.bool false) := by rw [← hw2]; exact h7
  have k5 : w2.cell? ⟨q, 5, none⟩ = some (.string n) := by rw [← hw2]; exact g5
  have HW : Hid (w2 = w.drewN nq) := hw2.symm
  clear hw2 h6 h7 g5 g6 hb
  go_quiet ((first | (go_at_call 14; exact Calls.quiet_of_same (below_is s n _ hs true hc)) | (go_at_call_of 15 (Value.string s); exact Calls.quiet_of_same (count_is s _ cs hcs)) | (go_at_call_of 15 (Value.string n); exact Calls.quiet_of_same (count_is n _ cn hcn))))
  go_wp2
  go_ret
  exact ⟨rfl, by rw [HW.out]; exact drewN_two _ _ _⟩

end
end Go.Proofs.Qxb6602915a

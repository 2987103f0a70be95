/-
  The ways through relateModel, no wildcard: each a theorem.
-/
import Derived.Test.Qxb6602915aModel
namespace Go.Proofs.Qxb6602915a
open Go.RowKit Go.Lib
set_option linter.unusedVariables false

/-- No wildcard; the subtree holds its own name; as many labels; they are the same. -/
theorem way_a (s n : ByteArray) (lS lN : Nat) (w : World) (hs : s.size ≤ 262144) (hn : n.size ≤ 262144) (hse : s.toList.isEmpty = false) (HS : Hid ((labels s.data.toList).length = lS)) (HN : Hid ((labels n.data.toList).length = lN)) (bS : lS ≤ 300000) (bN : lN ≤ 300000) (q1 : ((lN : Int) == (lS : Int)) = true) (F1 : Hid (suf (labels n.data.toList) (labels s.data.toList) = true)) :
    Calls Try.prog 7 #[.string s, .bool false, .string n, .bool false] w fun e w' => e = .returned (.int .i64 1) ∧ Below w.heap.size w w' := by
  go_enter Try.func7, Try.ntmps7
  go_wp2_with fail
  refine (labels_is s lS _ hs HS).mono ?_
  rintro e w1 ⟨gS, cS, rfl, rS, _, b1⟩
  go_wp2_with fail
  refine (labels_is n lN _ hn HN).mono ?_
  rintro e w2 ⟨gN, cN, rfl, rN, _, b2⟩
  have rS2 : Hid (rowAt w2 gS (labels s.data.toList)) := rowAt_later rS b2
  have rN2 : Hid (rowAt w2 gN (labels n.data.toList)) := rN
  have b3 : Below w.heap.size w w2 := b1.trans (b2.mono b1.size)
  clear rS rN b1 b2
  go_wp2_with fail
  have H1 := suffix_is gN gS lN lS cN cS _ _ true w2 w2 HN HS F1 (by omega) rN2 rS2 ⟨0, rfl⟩
  refine H1.mono ?_
  rintro e w' ⟨rfl, k1, rfl⟩
  clear H1
  go_wp2
  go_ret
  exact ⟨rfl, below_drewN b3 k1⟩

/-- No wildcard; as many labels; others. -/
theorem way_b (s n : ByteArray) (lS lN : Nat) (w : World) (hs : s.size ≤ 262144) (hn : n.size ≤ 262144) (hse : s.toList.isEmpty = false) (HS : Hid ((labels s.data.toList).length = lS)) (HN : Hid ((labels n.data.toList).length = lN)) (bS : lS ≤ 300000) (bN : lN ≤ 300000) (q1 : ((lN : Int) == (lS : Int)) = true) (q2 : ¬ (lS : Int) < (lN : Int)) (F1 : Hid (suf (labels n.data.toList) (labels s.data.toList) = false)) :
    Calls Try.prog 7 #[.string s, .bool false, .string n, .bool false] w fun e w' => e = .returned (.int .i64 0) ∧ Below w.heap.size w w' := by
  go_enter Try.func7, Try.ntmps7
  go_wp2_with fail
  refine (labels_is s lS _ hs HS).mono ?_
  rintro e w1 ⟨gS, cS, rfl, rS, _, b1⟩
  go_wp2_with fail
  refine (labels_is n lN _ hn HN).mono ?_
  rintro e w2 ⟨gN, cN, rfl, rN, _, b2⟩
  have rS2 : Hid (rowAt w2 gS (labels s.data.toList)) := rowAt_later rS b2
  have rN2 : Hid (rowAt w2 gN (labels n.data.toList)) := rN
  have b3 : Below w.heap.size w w2 := b1.trans (b2.mono b1.size)
  clear rS rN b1 b2
  go_wp2_with fail
  have H1 := suffix_is gN gS lN lS cN cS _ _ false w2 w2 HN HS F1 (by omega) rN2 rS2 ⟨0, rfl⟩
  refine H1.mono ?_
  rintro e w' ⟨rfl, k1, rfl⟩
  clear H1
  go_wp2
  go_ret
  exact ⟨rfl, below_drewN b3 k1⟩

/-- No wildcard; more labels; they end so. -/
theorem way_c0 (s n : ByteArray) (lS lN : Nat) (w : World) (hs : s.size ≤ 262144) (hn : n.size ≤ 262144) (hse : s.toList.isEmpty = false) (HS : Hid ((labels s.data.toList).length = lS)) (HN : Hid ((labels n.data.toList).length = lN)) (bS : lS ≤ 300000) (bN : lN ≤ 300000) (q1 : ((lN : Int) == (lS : Int)) = false) (q2 : (lS : Int) < (lN : Int)) (F1 : Hid (suf (labels n.data.toList) (labels s.data.toList) = true)) :
    Calls Try.prog 7 #[.string s, .bool false, .string n, .bool false] w fun e w' => e = .returned (.int .i64 1) ∧ Below w.heap.size w w' := by
  go_enter Try.func7, Try.ntmps7
  go_wp2_with fail
  refine (labels_is s lS _ hs HS).mono ?_
  rintro e w1 ⟨gS, cS, rfl, rS, _, b1⟩
  go_wp2_with fail
  refine (labels_is n lN _ hn HN).mono ?_
  rintro e w2 ⟨gN, cN, rfl, rN, _, b2⟩
  have rS2 : Hid (rowAt w2 gS (labels s.data.toList)) := rowAt_later rS b2
  have rN2 : Hid (rowAt w2 gN (labels n.data.toList)) := rN
  have b3 : Below w.heap.size w w2 := b1.trans (b2.mono b1.size)
  clear rS rN b1 b2
  go_wp2_with fail
  have H1 := suffix_is gN gS lN lS cN cS _ _ true w2 w2 HN HS F1 (by omega) rN2 rS2 ⟨0, rfl⟩
  refine H1.mono ?_
  rintro e w' ⟨rfl, k1, rfl⟩
  clear H1
  go_wp2
  go_ret
  exact ⟨rfl, below_drewN b3 k1⟩

/-- The same, the subtree without its own name. -/
theorem way_c1 (s n : ByteArray) (lS lN : Nat) (w : World) (hs : s.size ≤ 262144) (hn : n.size ≤ 262144) (hse : s.toList.isEmpty = false) (HS : Hid ((labels s.data.toList).length = lS)) (HN : Hid ((labels n.data.toList).length = lN)) (bS : lS ≤ 300000) (bN : lN ≤ 300000) (q2 : (lS : Int) < (lN : Int)) (F1 : Hid (suf (labels n.data.toList) (labels s.data.toList) = true)) :
    Calls Try.prog 7 #[.string s, .bool true, .string n, .bool false] w fun e w' => e = .returned (.int .i64 1) ∧ Below w.heap.size w w' := by
  go_enter Try.func7, Try.ntmps7
  go_wp2_with fail
  refine (labels_is s lS _ hs HS).mono ?_
  rintro e w1 ⟨gS, cS, rfl, rS, _, b1⟩
  go_wp2_with fail
  refine (labels_is n lN _ hn HN).mono ?_
  rintro e w2 ⟨gN, cN, rfl, rN, _, b2⟩
  have rS2 : Hid (rowAt w2 gS (labels s.data.toList)) := rowAt_later rS b2
  have rN2 : Hid (rowAt w2 gN (labels n.data.toList)) := rN
  have b3 : Below w.heap.size w w2 := b1.trans (b2.mono b1.size)
  clear rS rN b1 b2
  go_wp2_with fail
  have H1 := suffix_is gN gS lN lS cN cS _ _ true w2 w2 HN HS F1 (by omega) rN2 rS2 ⟨0, rfl⟩
  refine H1.mono ?_
  rintro e w' ⟨rfl, k1, rfl⟩
  clear H1
  go_wp2
  go_ret
  exact ⟨rfl, below_drewN b3 k1⟩

/-- No wildcard; more labels; they end otherwise. -/
theorem way_d0 (s n : ByteArray) (lS lN : Nat) (w : World) (hs : s.size ≤ 262144) (hn : n.size ≤ 262144) (hse : s.toList.isEmpty = false) (HS : Hid ((labels s.data.toList).length = lS)) (HN : Hid ((labels n.data.toList).length = lN)) (bS : lS ≤ 300000) (bN : lN ≤ 300000) (q1 : ((lN : Int) == (lS : Int)) = false) (q2 : (lS : Int) < (lN : Int)) (F1 : Hid (suf (labels n.data.toList) (labels s.data.toList) = false)) :
    Calls Try.prog 7 #[.string s, .bool false, .string n, .bool false] w fun e w' => e = .returned (.int .i64 0) ∧ Below w.heap.size w w' := by
  go_enter Try.func7, Try.ntmps7
  go_wp2_with fail
  refine (labels_is s lS _ hs HS).mono ?_
  rintro e w1 ⟨gS, cS, rfl, rS, _, b1⟩
  go_wp2_with fail
  refine (labels_is n lN _ hn HN).mono ?_
  rintro e w2 ⟨gN, cN, rfl, rN, _, b2⟩
  have rS2 : Hid (rowAt w2 gS (labels s.data.toList)) := rowAt_later rS b2
  have rN2 : Hid (rowAt w2 gN (labels n.data.toList)) := rN
  have b3 : Below w.heap.size w w2 := b1.trans (b2.mono b1.size)
  clear rS rN b1 b2
  go_wp2_with fail
  have H1 := suffix_is gN gS lN lS cN cS _ _ false w2 w2 HN HS F1 (by omega) rN2 rS2 ⟨0, rfl⟩
  refine H1.mono ?_
  rintro e w' ⟨rfl, k1, rfl⟩
  clear H1
  go_wp2
  go_ret
  exact ⟨rfl, below_drewN b3 k1⟩

/-- The same, the subtree without its own name. -/
theorem way_d1 (s n : ByteArray) (lS lN : Nat) (w : World) (hs : s.size ≤ 262144) (hn : n.size ≤ 262144) (hse : s.toList.isEmpty = false) (HS : Hid ((labels s.data.toList).length = lS)) (HN : Hid ((labels n.data.toList).length = lN)) (bS : lS ≤ 300000) (bN : lN ≤ 300000) (q2 : (lS : Int) < (lN : Int)) (F1 : Hid (suf (labels n.data.toList) (labels s.data.toList) = false)) :
    Calls Try.prog 7 #[.string s, .bool true, .string n, .bool false] w fun e w' => e = .returned (.int .i64 0) ∧ Below w.heap.size w w' := by
  go_enter Try.func7, Try.ntmps7
  go_wp2_with fail
  refine (labels_is s lS _ hs HS).mono ?_
  rintro e w1 ⟨gS, cS, rfl, rS, _, b1⟩
  go_wp2_with fail
  refine (labels_is n lN _ hn HN).mono ?_
  rintro e w2 ⟨gN, cN, rfl, rN, _, b2⟩
  have rS2 : Hid (rowAt w2 gS (labels s.data.toList)) := rowAt_later rS b2
  have rN2 : Hid (rowAt w2 gN (labels n.data.toList)) := rN
  have b3 : Below w.heap.size w w2 := b1.trans (b2.mono b1.size)
  clear rS rN b1 b2
  go_wp2_with fail
  have H1 := suffix_is gN gS lN lS cN cS _ _ false w2 w2 HN HS F1 (by omega) rN2 rS2 ⟨0, rfl⟩
  refine H1.mono ?_
  rintro e w' ⟨rfl, k1, rfl⟩
  clear H1
  go_wp2
  go_ret
  exact ⟨rfl, below_drewN b3 k1⟩

/-- No wildcard; fewer labels. -/
theorem way_e0 (s n : ByteArray) (lS lN : Nat) (w : World) (hs : s.size ≤ 262144) (hn : n.size ≤ 262144) (hse : s.toList.isEmpty = false) (HS : Hid ((labels s.data.toList).length = lS)) (HN : Hid ((labels n.data.toList).length = lN)) (bS : lS ≤ 300000) (bN : lN ≤ 300000) (q1 : ((lN : Int) == (lS : Int)) = false) (q2 : ¬ (lS : Int) < (lN : Int)) :
    Calls Try.prog 7 #[.string s, .bool false, .string n, .bool false] w fun e w' => e = .returned (.int .i64 0) ∧ Below w.heap.size w w' := by
  go_enter Try.func7, Try.ntmps7
  go_wp2_with fail
  refine (labels_is s lS _ hs HS).mono ?_
  rintro e w1 ⟨gS, cS, rfl, rS, _, b1⟩
  go_wp2_with fail
  refine (labels_is n lN _ hn HN).mono ?_
  rintro e w2 ⟨gN, cN, rfl, rN, _, b2⟩
  have rS2 : Hid (rowAt w2 gS (labels s.data.toList)) := rowAt_later rS b2
  have rN2 : Hid (rowAt w2 gN (labels n.data.toList)) := rN
  have b3 : Below w.heap.size w w2 := b1.trans (b2.mono b1.size)
  clear rS rN b1 b2
  go_wp2
  go_ret
  exact ⟨rfl, b3⟩

/-- No wildcard; no more labels; the subtree without its own name. -/
theorem way_e1 (s n : ByteArray) (lS lN : Nat) (w : World) (hs : s.size ≤ 262144) (hn : n.size ≤ 262144) (hse : s.toList.isEmpty = false) (HS : Hid ((labels s.data.toList).length = lS)) (HN : Hid ((labels n.data.toList).length = lN)) (bS : lS ≤ 300000) (bN : lN ≤ 300000) (q2 : ¬ (lS : Int) < (lN : Int)) :
    Calls Try.prog 7 #[.string s, .bool true, .string n, .bool false] w fun e w' => e = .returned (.int .i64 0) ∧ Below w.heap.size w w' := by
  go_enter Try.func7, Try.ntmps7
  go_wp2_with fail
  refine (labels_is s lS _ hs HS).mono ?_
  rintro e w1 ⟨gS, cS, rfl, rS, _, b1⟩
  go_wp2_with fail
  refine (labels_is n lN _ hn HN).mono ?_
  rintro e w2 ⟨gN, cN, rfl, rN, _, b2⟩
  have rS2 : Hid (rowAt w2 gS (labels s.data.toList)) := rowAt_later rS b2
  have rN2 : Hid (rowAt w2 gN (labels n.data.toList)) := rN
  have b3 : Below w.heap.size w w2 := b1.trans (b2.mono b1.size)
  clear rS rN b1 b2
  go_wp2
  go_ret
  exact ⟨rfl, b3⟩

end Go.Proofs.Qxb6602915a

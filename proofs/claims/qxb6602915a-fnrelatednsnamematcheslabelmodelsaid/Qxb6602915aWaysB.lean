/-
  The ways through relateModel, a wildcard: each a theorem.
-/
import Derived.Test.Qxb6602915aModel
namespace Go.Proofs.Qxb6602915a
open Go.RowKit Go.Lib
set_option linter.unusedVariables false

/-- A wildcard; the labels end so. b: whatever. -/
theorem way_g (s n : ByteArray) (lS lN : Nat) (b : Bool) (w : World) (hs : s.size ≤ 262144) (hn : n.size ≤ 262144) (hse : s.toList.isEmpty = false) (HS : Hid ((labels s.data.toList).length = lS)) (HN : Hid ((labels n.data.toList).length = lN)) (bS : lS ≤ 300000) (bN : lN ≤ 300000) (F1 : Hid (suf (labels n.data.toList) (labels s.data.toList) = true)) :
    Calls Try.prog 7 #[.string s, .bool b, .string n, .bool true] w fun e w' => e = .returned (.int .i64 1) ∧ Below w.heap.size w w' := by
  go_enter Try.func7, Try.ntmps7
  go_wp2_with fail
  refine (labels_is s lS _ hs HS).mono ?_
  rintro e w1 ⟨gS, cS, rfl, rS, _, b1⟩
  go_wp2_with fail
  refine (labels_is n lN _ hn HN).mono ?_
  rintro e w2 ⟨gN, cN, rfl, rN, _, b2⟩
  have rS2 : Hid (rowAt w2 gS (labels s.data.toList)) := rowAt_later rS b2
  have rN2 : Hid (rowAt w2 gN (labels n.data.toList)) := rN
  have b3 : Below w.heap.size w w2 := b1.trans (b2.mono b1.size)
  clear rS rN b1 b2
  go_wp2_with fail
  have H1 := suffix_is gN gS lN lS cN cS _ _ true w2 w2 HN HS F1 (by omega) rN2 rS2 ⟨0, rfl⟩
  refine H1.mono ?_
  rintro e w' ⟨rfl, k1, rfl⟩
  clear H1
  go_wp2
  go_ret
  exact ⟨rfl, below_drewN b3 k1⟩

/-- A wildcard; they end otherwise; the subtree without its own name. -/
theorem way_h (s n : ByteArray) (lS lN : Nat) (w : World) (hs : s.size ≤ 262144) (hn : n.size ≤ 262144) (hse : s.toList.isEmpty = false) (HS : Hid ((labels s.data.toList).length = lS)) (HN : Hid ((labels n.data.toList).length = lN)) (bS : lS ≤ 300000) (bN : lN ≤ 300000) (F1 : Hid (suf (labels n.data.toList) (labels s.data.toList) = false)) :
    Calls Try.prog 7 #[.string s, .bool true, .string n, .bool true] w fun e w' => e = .returned (.int .i64 0) ∧ Below w.heap.size w w' := by
  go_enter Try.func7, Try.ntmps7
  go_wp2_with fail
  refine (labels_is s lS _ hs HS).mono ?_
  rintro e w1 ⟨gS, cS, rfl, rS, _, b1⟩
  go_wp2_with fail
  refine (labels_is n lN _ hn HN).mono ?_
  rintro e w2 ⟨gN, cN, rfl, rN, _, b2⟩
  have rS2 : Hid (rowAt w2 gS (labels s.data.toList)) := rowAt_later rS b2
  have rN2 : Hid (rowAt w2 gN (labels n.data.toList)) := rN
  have b3 : Below w.heap.size w w2 := b1.trans (b2.mono b1.size)
  clear rS rN b1 b2
  go_wp2_with fail
  have H1 := suffix_is gN gS lN lS cN cS _ _ false w2 w2 HN HS F1 (by omega) rN2 rS2 ⟨0, rfl⟩
  refine H1.mono ?_
  rintro e w' ⟨rfl, k1, rfl⟩
  clear H1
  go_wp2
  go_ret
  exact ⟨rfl, below_drewN b3 k1⟩

/-- A wildcard; one label fewer; the subtree's name ends so. -/
theorem way_i (s n : ByteArray) (lS lN : Nat) (w : World) (hs : s.size ≤ 262144) (hn : n.size ≤ 262144) (hse : s.toList.isEmpty = false) (HS : Hid ((labels s.data.toList).length = lS)) (HN : Hid ((labels n.data.toList).length = lN)) (bS : lS ≤ 300000) (bN : lN ≤ 300000) (q3 : ((lS : Int) == (lN : Int) + 1) = true) (F1 : Hid (suf (labels n.data.toList) (labels s.data.toList) = false)) (F2 : Hid (suf (labels s.data.toList) (labels n.data.toList) = true)) :
    Calls Try.prog 7 #[.string s, .bool false, .string n, .bool true] w fun e w' => e = .returned (.int .i64 2) ∧ Below w.heap.size w w' := by
  go_enter Try.func7, Try.ntmps7
  go_wp2_with fail
  refine (labels_is s lS _ hs HS).mono ?_
  rintro e w1 ⟨gS, cS, rfl, rS, _, b1⟩
  go_wp2_with fail
  refine (labels_is n lN _ hn HN).mono ?_
  rintro e w2 ⟨gN, cN, rfl, rN, _, b2⟩
  have rS2 : Hid (rowAt w2 gS (labels s.data.toList)) := rowAt_later rS b2
  have rN2 : Hid (rowAt w2 gN (labels n.data.toList)) := rN
  have b3 : Below w.heap.size w w2 := b1.trans (b2.mono b1.size)
  clear rS rN b1 b2
  go_wp2_with fail
  have H1 := suffix_is gN gS lN lS cN cS _ _ false w2 w2 HN HS F1 (by omega) rN2 rS2 ⟨0, rfl⟩
  refine H1.mono ?_
  rintro e w' ⟨rfl, k1, rfl⟩
  clear H1
  go_wp2_with fail
  have H2 := suffix_is gS gN lS lN cS cN _ _ true w2 (w2.drewN k1) HS HN F2 (by omega) rS2 rN2 ⟨k1, rfl⟩
  refine H2.mono ?_
  rintro e w' ⟨rfl, k2, rfl⟩
  clear H2
  go_wp2
  go_ret
  exact ⟨rfl, below_drewN b3 k2⟩

/-- A wildcard; one label fewer; the subtree's name ends otherwise. -/
theorem way_j (s n : ByteArray) (lS lN : Nat) (w : World) (hs : s.size ≤ 262144) (hn : n.size ≤ 262144) (hse : s.toList.isEmpty = false) (HS : Hid ((labels s.data.toList).length = lS)) (HN : Hid ((labels n.data.toList).length = lN)) (bS : lS ≤ 300000) (bN : lN ≤ 300000) (q3 : ((lS : Int) == (lN : Int) + 1) = true) (F1 : Hid (suf (labels n.data.toList) (labels s.data.toList) = false)) (F2 : Hid (suf (labels s.data.toList) (labels n.data.toList) = false)) :
    Calls Try.prog 7 #[.string s, .bool false, .string n, .bool true] w fun e w' => e = .returned (.int .i64 0) ∧ Below w.heap.size w w' := by
  go_enter Try.func7, Try.ntmps7
  go_wp2_with fail
  refine (labels_is s lS _ hs HS).mono ?_
  rintro e w1 ⟨gS, cS, rfl, rS, _, b1⟩
  go_wp2_with fail
  refine (labels_is n lN _ hn HN).mono ?_
  rintro e w2 ⟨gN, cN, rfl, rN, _, b2⟩
  have rS2 : Hid (rowAt w2 gS (labels s.data.toList)) := rowAt_later rS b2
  have rN2 : Hid (rowAt w2 gN (labels n.data.toList)) := rN
  have b3 : Below w.heap.size w w2 := b1.trans (b2.mono b1.size)
  clear rS rN b1 b2
  go_wp2_with fail
  have H1 := suffix_is gN gS lN lS cN cS _ _ false w2 w2 HN HS F1 (by omega) rN2 rS2 ⟨0, rfl⟩
  refine H1.mono ?_
  rintro e w' ⟨rfl, k1, rfl⟩
  clear H1
  go_wp2_with fail
  have H2 := suffix_is gS gN lS lN cS cN _ _ false w2 (w2.drewN k1) HS HN F2 (by omega) rS2 rN2 ⟨k1, rfl⟩
  refine H2.mono ?_
  rintro e w' ⟨rfl, k2, rfl⟩
  clear H2
  go_wp2
  go_ret
  exact ⟨rfl, below_drewN b3 k2⟩

/-- A wildcard; not one label fewer. -/
theorem way_k (s n : ByteArray) (lS lN : Nat) (w : World) (hs : s.size ≤ 262144) (hn : n.size ≤ 262144) (hse : s.toList.isEmpty = false) (HS : Hid ((labels s.data.toList).length = lS)) (HN : Hid ((labels n.data.toList).length = lN)) (bS : lS ≤ 300000) (bN : lN ≤ 300000) (q3 : ((lS : Int) == (lN : Int) + 1) = false) (F1 : Hid (suf (labels n.data.toList) (labels s.data.toList) = false)) :
    Calls Try.prog 7 #[.string s, .bool false, .string n, .bool true] w fun e w' => e = .returned (.int .i64 0) ∧ Below w.heap.size w w' := by
  go_enter Try.func7, Try.ntmps7
  go_wp2_with fail
  refine (labels_is s lS _ hs HS).mono ?_
  rintro e w1 ⟨gS, cS, rfl, rS, _, b1⟩
  go_wp2_with fail
  refine (labels_is n lN _ hn HN).mono ?_
  rintro e w2 ⟨gN, cN, rfl, rN, _, b2⟩
  have rS2 : Hid (rowAt w2 gS (labels s.data.toList)) := rowAt_later rS b2
  have rN2 : Hid (rowAt w2 gN (labels n.data.toList)) := rN
  have b3 : Below w.heap.size w w2 := b1.trans (b2.mono b1.size)
  clear rS rN b1 b2
  go_wp2_with fail
  have H1 := suffix_is gN gS lN lS cN cS _ _ false w2 w2 HN HS F1 (by omega) rN2 rS2 ⟨0, rfl⟩
  refine H1.mono ?_
  rintro e w' ⟨rfl, k1, rfl⟩
  clear H1
  go_wp2
  go_ret
  exact ⟨rfl, below_drewN b3 k1⟩

end Go.Proofs.Qxb6602915a

/-
  relateModel: the two callees' contracts in the form that its walk takes, and the walk, a way a theorem.
-/
import Derived.Test.Qxb6602915aLabels
import Derived.Test.Qxb6602915aSuffix
namespace Go.Proofs.Qxb6602915a
open Go.RowKit Go.Lib

/-- The cells of block g hold the strings of A. -/
def rowAt (w : World) (g : Nat) (A : List (List UInt8)) : Prop :=
  ∀ i, i < A.length → w.cell? ⟨g, i, none⟩ = some (.string ⟨(A.getD i []).toArray⟩)

theorem labels_is (x : ByteArray) (l : Nat) (w : World) (hx : x.size ≤ 262144) (hl : Hid ((labels x.data.toList).length = l)) :
    Calls Try.prog 11 #[.string x] w fun e w' => ∃ g c, e = .returned (.slice (some ⟨g, 0, none⟩) l c) ∧ rowAt w' g (labels x.data.toList) ∧ g < w'.heap.size ∧ Below w.heap.size w w' := by
  refine (labelsOf_any x w hx).mono ?_
  rintro e w' ⟨v, he, hown, hb⟩
  have hpos : 0 < (labels x.data.toList).length := by rw [labels_length]; omega
  rcases hown.2 with ⟨_, h0⟩ | ⟨g, cap, cur, rfl, hbg, hg, hnc, hcm, hcs, htake⟩
  · omega
  · have hrow : rowAt w' g (labels x.data.toList) := by
      intro i hi
      rw [hown.cellAt i (by omega), List.getElem?_map, List.getD_eq_getElem?_getD, List.getElem?_eq_getElem hi]
      rfl
    refine ⟨g, cap, ?_, hrow, ?_, hb⟩
    · rw [he, hl.out]
    · exact World.block_lt_of_cell? w' ⟨g, 0, none⟩ (hrow 0 hpos)

theorem rowAt_later {w w' : World} {g : Nat} {A : List (List UInt8)} (h : rowAt w g A) (hb : Below w.heap.size w w') : rowAt w' g A :=
  fun i hi => cell_later hb (h i hi)

theorem suffix_is (ga gb la lb ca cb : Nat) (A B : List (List UInt8)) (r : Bool) (w wx : World) (hA : Hid (A.length = la)) (hB : Hid (B.length = lb)) (hr : Hid (suf A B = r)) (h1 : la ≤ 500000)
    (hca : Hid (rowAt w ga A)) (hcb : Hid (rowAt w gb B)) (hw : ∃ k, wx = w.drewN k) :
    Calls Try.prog 12 #[.slice (some ⟨ga, 0, none⟩) la ca, .slice (some ⟨gb, 0, none⟩) lb cb] wx fun e w' => e = .returned (.bool r) ∧ ∃ k, w' = w.drewN k := by
  obtain ⟨k, rfl⟩ := hw
  by_cases h : la < lb
  · have e : r = false := by rw [← hr.out]; exact suf_short A B (by rw [hA.out, hB.out]; exact h)
    subst e
    refine (suffix_short ga gb la lb ca cb (w.drewN k) h).mono ?_
    rintro e w' ⟨he, rfl⟩
    exact ⟨he, k, rfl⟩
  · have e : la = (la - lb) + lb := by omega
    have H := suffix_long ga gb (la - lb) lb ca cb A B r (w.drewN k) (by omega) (by rw [hA.out]; exact e) hB.out hr (fun i hi => hca.out i hi) (fun i hi => hcb.out i hi)
    rw [← e] at H
    refine H.mono ?_
    rintro e w' ⟨he, j, rfl⟩
    exact ⟨he, drewN_both _ _ _⟩

end Go.Proofs.Qxb6602915a

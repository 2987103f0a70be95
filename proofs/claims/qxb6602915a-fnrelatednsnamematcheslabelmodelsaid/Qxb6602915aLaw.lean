/-
  relateModel at every input; the law's walk.
-/
import Derived.Test.Qxb6602915aCode2
import Derived.Test.Qxb6602915aWaysA
import Derived.Test.Qxb6602915aWaysB
namespace Go.Proofs.Qxb6602915a
open Go.RowKit Go.Lib

theorem way_empty (s n : ByteArray) (b wi : Bool) (w : World) (hse : s.toList.isEmpty = true) :
    Calls Try.prog 7 #[.string s, .bool b, .string n, .bool wi] w fun e w' => e = .returned (.int .i64 1) ∧ Below w.heap.size w w' := by
  go_enter Try.func7, Try.ntmps7
  go_wp2
  go_ret
  exact ⟨rfl, Below.refl _ _⟩

theorem labels_bound (s : ByteArray) (hs : s.size ≤ 262144) : (labels s.data.toList).length ≤ 300000 := by
  have h := List.count_le_length (a := (46 : UInt8)) (l := s.data.toList)
  rw [← size_eq] at h
  rw [labels_length]
  omega

theorem model_any (s n : ByteArray) (b wi : Bool) (w : World) (hs : s.size ≤ 262144) (hn : n.size ≤ 262144) :
    Calls Try.prog 7 #[.string s, .bool b, .string n, .bool wi] w fun e w' => e = .returned (.int .i64 (relM s.data.toList b n.data.toList wi)) ∧ Below w.heap.size w w' := by
  have ts := toList_data s
  have bS := labels_bound s hs
  have bN := labels_bound n hn
  unfold relM
  cases hse : s.data.toList.isEmpty
  · have hse' : s.toList.isEmpty = false := by rw [ts]; exact hse
    obtain ⟨lS, HS⟩ : ∃ l, Hid ((labels s.data.toList).length = l) := ⟨_, rfl⟩
    obtain ⟨lN, HN⟩ : ∃ l, Hid ((labels n.data.toList).length = l) := ⟨_, rfl⟩
    rw [HS.out] at bS
    rw [HN.out] at bN
    rw [HS.out, HN.out]
    cases wi
    · rcases Nat.lt_trichotomy lN lS with hl | hl | hl
      · have q1 : ((lN : Int) == (lS : Int)) = false := beq_eq_false_iff_ne.2 (by omega)
        have q2 : ¬ (lS : Int) < (lN : Int) := by omega
        have p1 : (lN == lS) = false := beq_eq_false_iff_ne.2 (by omega)
        have p2 : decide (lS < lN) = false := decide_eq_false (by omega)
        rw [p1, p2]
        cases b
        · simpa using way_e0 s n lS lN w hs hn hse' HS HN bS bN q1 q2
        · simpa using way_e1 s n lS lN w hs hn hse' HS HN bS bN q2
      · have q1 : ((lN : Int) == (lS : Int)) = true := beq_iff_eq.2 (by omega)
        have q2 : ¬ (lS : Int) < (lN : Int) := by omega
        have p1 : (lN == lS) = true := beq_iff_eq.2 (by omega)
        have p2 : decide (lS < lN) = false := decide_eq_false (by omega)
        rw [p1, p2]
        cases b
        · cases hf : suf (labels n.data.toList) (labels s.data.toList)
          · simpa using way_b s n lS lN w hs hn hse' HS HN bS bN q1 q2 hf
          · simpa using way_a s n lS lN w hs hn hse' HS HN bS bN q1 hf
        · simpa using way_e1 s n lS lN w hs hn hse' HS HN bS bN q2
      · have q1 : ((lN : Int) == (lS : Int)) = false := beq_eq_false_iff_ne.2 (by omega)
        have q2 : (lS : Int) < (lN : Int) := by omega
        have p1 : (lN == lS) = false := beq_eq_false_iff_ne.2 (by omega)
        have p2 : decide (lS < lN) = true := decide_eq_true (by omega)
        rw [p1, p2]
        cases hf : suf (labels n.data.toList) (labels s.data.toList)
        · cases b
          · simpa using way_d0 s n lS lN w hs hn hse' HS HN bS bN q1 q2 hf
          · simpa using way_d1 s n lS lN w hs hn hse' HS HN bS bN q2 hf
        · cases b
          · simpa using way_c0 s n lS lN w hs hn hse' HS HN bS bN q1 q2 hf
          · simpa using way_c1 s n lS lN w hs hn hse' HS HN bS bN q2 hf
    · cases hf : suf (labels n.data.toList) (labels s.data.toList)
      · cases b
        · by_cases ho : lS = lN + 1
          · have q3 : ((lS : Int) == (lN : Int) + 1) = true := beq_iff_eq.2 (by omega)
            have p3 : (lS == lN + 1) = true := beq_iff_eq.2 ho
            rw [p3]
            cases hg : suf (labels s.data.toList) (labels n.data.toList)
            · simpa using way_j s n lS lN w hs hn hse' HS HN bS bN q3 hf hg
            · simpa using way_i s n lS lN w hs hn hse' HS HN bS bN q3 hf hg
          · have q3 : ((lS : Int) == (lN : Int) + 1) = false := beq_eq_false_iff_ne.2 (by omega)
            have p3 : (lS == lN + 1) = false := beq_eq_false_iff_ne.2 ho
            rw [p3]
            simpa using way_k s n lS lN w hs hn hse' HS HN bS bN q3 hf
        · simpa using way_h s n lS lN w hs hn hse' HS HN bS bN hf
      · simpa using way_g s n lS lN b w hs hn hse' HS HN bS bN hf
  · have hse' : s.toList.isEmpty = true := by rw [ts]; exact hse
    simpa using way_empty s n b wi w hse'

theorem zzb_any (s n : ByteArray) (b wi : Bool) (w : World) (hs : s.size ≤ 262144) (hn : n.size ≤ 262144) :
    Calls Try.prog 5 #[.string s, .bool b, .string n, .bool wi] w fun e w' => e = .returned (.bool true) ∧ w' = w := by
  go_enter Try.func5, Try.ntmps5
  go_wp2
  go_ret
  exact ⟨rfl, rfl⟩

set_option maxHeartbeats 400000 in
theorem law_long (s n : ByteArray) (b wi : Bool) (w : World) (w0 : s.size ≤ maxLen) (w1 : n.size ≤ maxLen) (hs : ¬ (s.size ≤ 262144 ∧ n.size ≤ 262144)) :
    Calls Try.prog 3 #[.string s, .bool b, .string n, .bool wi] w fun e w' => e = .returned (.bool true) ∧ w' = w := by
  unfold maxLen at w0 w1
  by_cases h1 : (262144 : Int) < s.size
  · clear hs
    go_enter Try.func3, Try.ntmps3
    go_wp2
    all_goals go_ret
    all_goals exact ⟨rfl, rfl⟩
  · have h2 : (262144 : Int) < n.size := by omega
    clear hs
    go_enter Try.func3, Try.ntmps3
    go_wp2
    all_goals go_ret
    all_goals exact ⟨rfl, rfl⟩

set_option maxHeartbeats 400000 in
theorem law_short (s n : ByteArray) (b wi : Bool) (w : World) (hs : s.size ≤ 262144) (hn : n.size ≤ 262144) :
    Calls Try.prog 3 #[.string s, .bool b, .string n, .bool wi] w fun e w' => e = .returned (.bool true) ∧ Below w.heap.size w w' := by
  obtain ⟨r, hr⟩ : ∃ r, Hid (relA s.data.toList b n.data.toList wi = r) := ⟨_, rfl⟩
  have H1 := zzrelate_any s n b wi w (by omega) (by omega)
  rw [hr.out] at H1
  have H2 : ∀ wx, Calls Try.prog 7 #[.string s, .bool b, .string n, .bool wi] wx fun e w' => e = .returned (.int .i64 r) ∧ Below wx.heap.size wx w' := fun wx => by
    have H := model_any s n b wi wx hs hn
    rw [← rel_eq, hr.out] at H
    exact H
  have HB := zzb_any s n b wi w hs hn
  clear hr
  go_enter Try.func3, Try.ntmps3
  go_wp2_with (go_at_call 5; refine HB.mono ?_; rintro e w' ⟨rfl, rfl⟩)
  refine H1.mono ?_
  rintro e wa ⟨rfl, ba⟩
  clear H1 HB
  go_wp2_with fail
  refine (H2 wa).mono ?_
  rintro e wb ⟨rfl, bb⟩
  clear H2
  go_wp2
  go_ret
  exact ⟨rfl, ba.trans (bb.mono ba.size)⟩

theorem law_any (s n : ByteArray) (b wi : Bool) (w : World) (w0 : s.size ≤ maxLen) (w1 : n.size ≤ maxLen) :
    Calls Try.prog 3 #[.string s, .bool b, .string n, .bool wi] w fun e w' => e = .returned (.bool true) ∧ Below w.heap.size w w' := by
  by_cases hs : s.size ≤ 262144 ∧ n.size ≤ 262144
  · exact law_short s n b wi w hs.1 hs.2
  · refine (law_long s n b wi w w0 w1 hs).mono ?_
    rintro e w' ⟨he, rfl⟩
    exact ⟨he, Below.refl _ _⟩

end Go.Proofs.Qxb6602915a

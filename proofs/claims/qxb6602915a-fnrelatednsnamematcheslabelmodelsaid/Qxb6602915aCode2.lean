/-
  relateDNSName at every input, and the shim ZZRelateDNSName.
-/
import Derived.Test.Qxb6602915aCode
namespace Go.Proofs.Qxb6602915a
open Go.RowKit Go.Lib

set_option maxHeartbeats 400000 in
/-- A wildcard; not below; the subtree's name is below the name by more than one label. -/
theorem relate_nine (p q : Nat) (s n : ByteArray) (w : World) (cs cn : Nat) (hn : n.size ≤ 1000000) (hs : s.size ≤ 1000000) (hse : s.toList.isEmpty = false) (he : (n.toList == s.toList) = false) (hb : Hid (belowB n.data.toList s.data.toList = false)) (hc : Hid (belowB s.data.toList n.data.toList = true))
    (hcs : Hid (s.data.toList.count 46 = cs)) (hcn : Hid (n.data.toList.count 46 = cn)) (hcb : cn ≤ 1000000) (hone : ((cs : Int) == (cn : Int) + 1) = false)
    (h6 : w.cell? ⟨p, 6, none⟩ = some (.string s)) (h7 : w.cell? ⟨p, 7, none⟩ = some (.bool false)) (g5 : w.cell? ⟨q, 5, none⟩ = some (.string n)) (g6 : w.cell? ⟨q, 6, none⟩ = some (.bool true)) :
    Calls Try.prog 10 #[.pointer (some ⟨p, 0, none⟩), .pointer (some ⟨q, 0, none⟩)] w fun e w' => e = .returned (.int .i64 0) ∧ ∃ k, w' = w.drewN k := by
  go_enter Try.func10, Try.ntmps10
  go_wp2
  go_quiet ((go_at_call 14; exact Calls.quiet_of_same (below_is n s _ hn false hb)))
  go_wp2
  generalize hw2 : w.drewN nq = w2
  have k6 : w2.cell? ⟨p, 6, none⟩ = some (.string s) := by rw [← hw2]; exact h6
  have k7 : w2.cell? ⟨p, 7, none⟩ = some (.bool false) := by rw [← hw2]; exact h7
  have k5 : w2.cell? ⟨q, 5, none⟩ = some (.string n) := by rw [← hw2]; exact g5
  have HW : Hid (w2 = w.drewN nq) := hw2.symm
  clear hw2 h6 h7 g5 g6 hb
  go_quiet ((first | (go_at_call 14; exact Calls.quiet_of_same (below_is s n _ hs true hc)) | (go_at_call_of 15 (Value.string s); exact Calls.quiet_of_same (count_is s _ cs hcs)) | (go_at_call_of 15 (Value.string n); exact Calls.quiet_of_same (count_is n _ cn hcn))))
  go_wp2
  go_ret
  exact ⟨rfl, by rw [HW.out]; exact drewN_two _ _ _⟩

theorem relate_any (p q : Nat) (s n : ByteArray) (b wi : Bool) (w : World) (hn : n.size ≤ 1000000) (hs : s.size ≤ 1000000)
    (h6 : w.cell? ⟨p, 6, none⟩ = some (.string s)) (h7 : w.cell? ⟨p, 7, none⟩ = some (.bool b)) (g5 : w.cell? ⟨q, 5, none⟩ = some (.string n)) (g6 : w.cell? ⟨q, 6, none⟩ = some (.bool wi)) :
    Calls Try.prog 10 #[.pointer (some ⟨p, 0, none⟩), .pointer (some ⟨q, 0, none⟩)] w fun e w' => e = .returned (.int .i64 (relA s.data.toList b n.data.toList wi)) ∧ ∃ k, w' = w.drewN k := by
  have ts := toList_data s
  have tn := toList_data n
  unfold relA
  cases hse : s.data.toList.isEmpty
  · have hse' : s.toList.isEmpty = false := by rw [ts]; exact hse
    cases wi
    · cases he : (n.data.toList == s.data.toList)
      · have he' : (n.toList == s.toList) = false := by rw [ts, tn]; exact he
        simpa using relate_three p q s n w hn hse' he' h6 g5 g6
      · have he' : (n.toList == s.toList) = true := by rw [ts, tn]; exact he
        cases b
        · simpa using relate_one p q s n w hse' he' h6 h7 g5 g6
        · simpa using relate_two p q s n w hn hse' he' h6 h7 g5 g6
    · cases he : (n.data.toList == s.data.toList)
      · have he' : (n.toList == s.toList) = false := by rw [ts, tn]; exact he
        cases hb : belowB n.data.toList s.data.toList
        · cases b
          · cases hc : belowB s.data.toList n.data.toList
            · simpa using relate_seven p q s n w hn hs hse' he' hb hc h6 h7 g5 g6
            · have hcb : n.data.toList.count 46 ≤ 1000000 := by
                have := List.count_le_length (a := (46 : UInt8)) (l := n.data.toList)
                rw [← size_eq] at this
                omega
              by_cases ho : s.data.toList.count 46 = n.data.toList.count 46 + 1
              · have h1 : (((s.data.toList.count 46 : Nat) : Int) == ((n.data.toList.count 46 : Nat) : Int) + 1) = true := beq_iff_eq.2 (by omega)
                have h2 : (s.data.toList.count 46 == n.data.toList.count 46 + 1) = true := by simpa using ho
                have H := relate_eight p q s n w _ _ hn hs hse' he' hb hc rfl rfl hcb h1 h6 h7 g5 g6
                rw [h2]
                simpa using H
              · have h1 : (((s.data.toList.count 46 : Nat) : Int) == ((n.data.toList.count 46 : Nat) : Int) + 1) = false := beq_eq_false_iff_ne.2 (by omega)
                have h2 : (s.data.toList.count 46 == n.data.toList.count 46 + 1) = false := by simpa using ho
                have H := relate_nine p q s n w _ _ hn hs hse' he' hb hc rfl rfl hcb h1 h6 h7 g5 g6
                rw [h2]
                simpa using H
          · simpa using relate_six p q s n w hn hse' he' hb h6 h7 g5 g6
        · simpa using relate_five p q s n w hn hse' he' hb h6 g5 g6
      · have he' : (n.toList == s.toList) = true := by rw [ts, tn]; exact he
        simpa using relate_four p q s n w hse' he' h6 g5 g6
  · have hse' : s.toList.isEmpty = true := by rw [ts]; exact hse
    simpa using relate_empty p q s w hse' h6

set_option maxHeartbeats 400000 in
theorem zzrelate_any (s n : ByteArray) (b wi : Bool) (w : World) (hn : n.size ≤ 1000000) (hs : s.size ≤ 1000000) :
    Calls Try.prog 6 #[.string s, .bool b, .string n, .bool wi] w fun e w' => e = .returned (.int .i64 (relA s.data.toList b n.data.toList wi)) ∧ Below w.heap.size w w' := by
  obtain ⟨r, hr⟩ : ∃ r, Hid (relA s.data.toList b n.data.toList wi = r) := ⟨_, rfl⟩
  rw [hr.out]
  go_enter Try.func6, Try.ntmps6
  go_wp2_with fail
  have H := relate_any w.heap.size (w.heap.size + 1) s n b wi ((w.alloc (.cells #[.int .u8 2, .slice none 0 0, .slice none 0 0, .string ⟨#[]⟩, .bool false, .string ⟨#[]⟩, .string s, .bool b, .bool true] 33)).alloc (.cells #[.int .u8 2, .slice none 0 0, .slice none 0 0, .string ⟨#[]⟩, .string ⟨#[]⟩, .string n, .bool wi, .bool true] 35)) hn hs (by go_simp) (by go_simp) (by go_simp) (by go_simp)
  rw [hr.out] at H
  refine H.mono ?_
  rintro e w1 ⟨rfl, k, rfl⟩
  clear H
  go_wp2
  go_ret
  exact ⟨rfl, below_drewN (((Below.refl _ _).alloc (Nat.le_refl _) _).alloc (by simp) _) k⟩

end Go.Proofs.Qxb6602915a

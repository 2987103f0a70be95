/-
  The walk of qeScanner, and of FnQuotedToEndMatchesScanner.
-/
import Derived.Test.Qxb6604056aRows
import Derived.Test.Qxb6604056aQuoted
import Derived.WalkKit
import Derived.WalkSpells
namespace Go.Proofs.Qxb6604056a
open Go.RowKit Go.Lib

theorem byte_is {x c : UInt8} (h : x = c) : ((x.toNat : Int) == (c.toNat : Int)) = true := by simp [h]
theorem byte_not {x c : UInt8} (h : x ≠ c) : ((x.toNat : Int) == (c.toNat : Int)) = false := by
  simp; intro hn; exact h (byte_eq_of_toNat (by omega))

set_option maxHeartbeats 1000000 in
theorem scanner_any (p : ByteArray) (b : Bool) (w : World) (hs : p.size ≤ 2000000) (hb : Hid (sc 0 p.data.toList = b)) :
    Calls Try.prog 16 #[.string p] w fun e w' => e = .returned (.bool b) ∧ w' = w := by
  go_enter Try.func16, Try.ntmps16
  go_wp2
  go_loop [3, 4] (fun t i => ∃ k st : Nat, k ≤ p.size ∧ st ≤ 3 ∧ i = .int .i64 k ∧ t = .int .i64 st ∧ Hid (sc st (p.data.toList.drop k) = b)) (fun _ i => p.size - (RowKit.intOf i).toNat)
  case atStart => exact ⟨0, 0, Nat.zero_le _, by omega, rfl, rfl, hb⟩
  case round =>
    obtain ⟨k, st, hk, hst, rfl, rfl, HK⟩ := hrel
    clear hb
    by_cases hlt : k < p.size
    · have HS : Hid (sc (step st p[k]) (p.data.toList.drop (k + 1)) = b) := by
        have := HK.out
        rw [drop_cons p k hlt] at this
        exact this
      clear HK
      match st, hst with
      | 0, _ =>
        by_cases hc : p[k] = 92
        · have g : ((p[k].toNat : Int) == 92) = true := byte_is hc
          have HT : Hid (sc 1 (p.data.toList.drop (k + 1)) = b) := by
            have := HS.out; show sc 1 _ = b; simpa [step, hc] using this
          clear HS hc
          go_wp2
          go_round
          case rel => exact ⟨k + 1, 1, by omega, by omega, by go_num, rfl, HT⟩
          case measure => simp [RowKit.intOf]; omega
        · have g : ((p[k].toNat : Int) == 92) = false := byte_not hc
          have HT : Hid (sc 0 (p.data.toList.drop (k + 1)) = b) := by
            have := HS.out; show sc 0 _ = b; simpa [step, hc] using this
          clear HS hc
          go_wp2
          go_round
          case rel => exact ⟨k + 1, 0, by omega, by omega, by go_num, rfl, HT⟩
          case measure => simp [RowKit.intOf]; omega
      | 1, _ =>
        by_cases hc : p[k] = 81
        · have g : ((p[k].toNat : Int) == 81) = true := byte_is hc
          have HT : Hid (sc 2 (p.data.toList.drop (k + 1)) = b) := by
            have := HS.out; show sc 2 _ = b; simpa [step, hc] using this
          clear HS hc
          go_wp2
          go_round
          case rel => exact ⟨k + 1, 2, by omega, by omega, by go_num, rfl, HT⟩
          case measure => simp [RowKit.intOf]; omega
        · have g : ((p[k].toNat : Int) == 81) = false := byte_not hc
          have HT : Hid (sc 0 (p.data.toList.drop (k + 1)) = b) := by
            have := HS.out; show sc 0 _ = b; simpa [step, hc] using this
          clear HS hc
          go_wp2
          go_round
          case rel => exact ⟨k + 1, 0, by omega, by omega, by go_num, rfl, HT⟩
          case measure => simp [RowKit.intOf]; omega
      | 2, _ =>
        by_cases hc : p[k] = 92
        · have g : ((p[k].toNat : Int) == 92) = true := byte_is hc
          have HT : Hid (sc 3 (p.data.toList.drop (k + 1)) = b) := by
            have := HS.out; show sc 3 _ = b; simpa [step, hc] using this
          clear HS hc
          go_wp2
          go_round
          case rel => exact ⟨k + 1, 3, by omega, by omega, by go_num, rfl, HT⟩
          case measure => simp [RowKit.intOf]; omega
        · have g : ((p[k].toNat : Int) == 92) = false := byte_not hc
          have HT : Hid (sc 2 (p.data.toList.drop (k + 1)) = b) := by
            have := HS.out; show sc 2 _ = b; simpa [step, hc] using this
          clear HS hc
          go_wp2
          go_round
          case rel => exact ⟨k + 1, 2, by omega, by omega, by go_num, rfl, HT⟩
          case measure => simp [RowKit.intOf]; omega
      | 3, _ =>
        by_cases hc : p[k] = 69
        · have g : ((p[k].toNat : Int) == 69) = true := byte_is hc
          have HT : Hid (sc 0 (p.data.toList.drop (k + 1)) = b) := by
            have := HS.out; show sc 0 _ = b; simpa [step, hc] using this
          clear HS hc
          go_wp2
          go_round
          case rel => exact ⟨k + 1, 0, by omega, by omega, by go_num, rfl, HT⟩
          case measure => simp [RowKit.intOf]; omega
        · have g : ((p[k].toNat : Int) == 69) = false := byte_not hc
          by_cases hd : p[k] = 92
          · have g2 : ((p[k].toNat : Int) != 92) = false := by simp [hd]
            have HT : Hid (sc 3 (p.data.toList.drop (k + 1)) = b) := by
              have := HS.out; show sc 3 _ = b; simpa [step, hc, hd] using this
            clear HS hc hd
            go_wp2
            go_round
            case rel => exact ⟨k + 1, 3, by omega, by omega, by go_num, rfl, HT⟩
            case measure => simp [RowKit.intOf]; omega
          · have g2 : ((p[k].toNat : Int) != 92) = true := by
              have := byte_not hd
              simp at this
              simp; exact this
            have HT : Hid (sc 2 (p.data.toList.drop (k + 1)) = b) := by
              have := HS.out; show sc 2 _ = b; simpa [step, hc, hd] using this
            clear HS hc hd
            go_wp2
            go_round
            case rel => exact ⟨k + 1, 2, by omega, by omega, by go_num, rfl, HT⟩
            case measure => simp [RowKit.intOf]; omega
    · have hf : decide ((2 : Int) ≤ (st : Int)) = b := by
        rw [← HK.out, List.drop_of_length_le (by rw [← size_eq]; omega)]
        simp [sc]; omega
      clear HK
      subst hf
      go_wp2
      go_ret
      exact ⟨rfl, rfl⟩

theorem zzb_scan (s : ByteArray) (w : World) (hs : s.size ≤ 1048576) :
    Calls Try.prog 14 #[.string s] w fun e w' => e = .returned (.bool true) ∧ w' = w := by
  go_enter Try.func14, Try.ntmps14
  go_wp2
  go_ret
  exact ⟨rfl, rfl⟩

theorem scan_long (s : ByteArray) (w : World) (w0 : s.size ≤ maxLen) (hs : ¬ s.size ≤ 1048576) :
    Calls Try.prog 5 #[.string s] w fun e w' => e = .returned (.bool true) ∧ w' = w := by
  unfold maxLen at w0
  have h1 : (1048576 : Int) < s.size := by omega
  go_enter Try.func5, Try.ntmps5
  go_wp2
  go_ret
  exact ⟨rfl, rfl⟩

theorem scan_short (s : ByteArray) (m : Int) (w : World) (hs : s.size ≤ 1048576) (hm : w.cell? ⟨0, 0, none⟩ = some (.int .i64 m)) :
    Calls Try.prog 5 #[.string s] w fun e w' => e = .returned (.bool true) ∧ w' = w := by
  obtain ⟨b, hb⟩ : ∃ b : Bool, Hid (sc 0 s.data.toList = b) := ⟨_, rfl⟩
  have HQ := zzquoted_any s b m w (by omega) hb hm
  have HS := scanner_any s b w (by omega) hb
  have HB := zzb_scan s w hs
  clear hb hm
  go_enter Try.func5, Try.ntmps5
  go_wp2_with (first | (go_at_call 14; refine HB.mono ?_; rintro e w' ⟨rfl, rfl⟩) | (go_at_call 15; refine HQ.mono ?_; rintro e w' ⟨rfl, rfl⟩) | (go_at_call 16; refine HS.mono ?_; rintro e w' ⟨rfl, rfl⟩))
  go_ret
  exact ⟨rfl, rfl⟩

theorem scan_any (s : ByteArray) (m : Int) (w : World) (w0 : s.size ≤ maxLen) (hm : w.cell? ⟨0, 0, none⟩ = some (.int .i64 m)) :
    Calls Try.prog 5 #[.string s] w fun e w' => e = .returned (.bool true) ∧ Grown w w' := by
  have fin : Calls Try.prog 5 #[.string s] w fun e w' => e = .returned (.bool true) ∧ w' = w := by
    by_cases hs : s.size ≤ 1048576
    · exact scan_short s m w hs hm
    · exact scan_long s w w0 hs
  refine fin.mono ?_
  rintro e w' ⟨he, rfl⟩
  exact ⟨he, Grown.refl _⟩

end Go.Proofs.Qxb6604056a

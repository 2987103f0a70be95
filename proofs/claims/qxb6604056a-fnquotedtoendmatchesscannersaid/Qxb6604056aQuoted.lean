/-
  The contracts of quotedToEnd and of its shim over strings.Index's own: it answers as the scanner does.
-/
import Derived.Test.Qxb6604056aRows
import Derived.Test.Qxb6604056aShelf
import Derived.Test.Qxb6604056aPlain
import Derived.WalkKit
import Derived.WalkSpells
import Derived.Lib.CutLaws
import Derived.Lib.IndexBytes
namespace Go.Proofs.Qxb6604056a
open Go.RowKit Go.Lib

theorem drop_cons (s : ByteArray) (k : Nat) (h : k < s.size) : s.data.toList.drop k = s[k] :: s.data.toList.drop (k + 1) := by
  have hl : k < s.data.toList.length := by rw [← size_eq]; exact h
  rw [List.drop_eq_getElem_cons hl]
  rfl

theorem extract_size (s : ByteArray) (k : Nat) : (s.extract k s.size).size = s.size - k := by
  rw [size_eq, extract_to_end, List.length_drop, ← size_eq]

theorem index_two_cases (s : ByteArray) (k : Nat) : index (s.extract k s.size).data.toList [92, 69] = -1 ∨ ∃ j : Nat, index (s.extract k s.size).data.toList [92, 69] = (j : Int) ∧ j + 2 ≤ s.size - k := by
  have hl := extract_size s k
  rcases indexB_cases (s.extract k s.size) ⟨#[92, 69]⟩ with h | ⟨i, h, hr⟩
  · exact Or.inl h
  · refine Or.inr ⟨i, h, ?_⟩
    rw [hl] at hr
    exact hr

set_option maxHeartbeats 400000 in
theorem quoted_any (p : ByteArray) (b : Bool) (m : Int) (w : World) (hs : p.size ≤ 2000000) (hb : Hid (sc 0 p.data.toList = b)) (hm : w.cell? ⟨0, 0, none⟩ = some (.int .i64 m)) :
    Calls Try.prog 20 #[.string p] w fun e w' => e = .returned (.bool b) ∧ w' = w := by
  go_enter Try.func20, Try.ntmps20
  go_wp2
  go_loop [3] (fun i => ∃ k : Nat, k ≤ p.size ∧ i = .int .i64 k ∧ Hid (sc 0 (p.data.toList.drop k) = b)) (fun i => p.size - (RowKit.intOf i).toNat)
  case atStart => exact ⟨0, Nat.zero_le _, rfl, hb⟩
  case round =>
    obtain ⟨k, hk, rfl, HK⟩ := hrel
    clear hb
    by_cases hlt : k + 1 < p.size
    · have hl2 : (k : Int) < (p.size : Int) - 1 := by omega
      have hk0 : k < p.size := by omega
      by_cases hc : p[k] = 92
      · have g : ((p[k].toNat : Int) != 92) = false := by simp [hc]
        by_cases hd : p[k + 1] = 81
        · have g2 : ((p[k + 1].toNat : Int) != 81) = false := by simp [hd]
          have HO : Hid (sc 2 (p.data.toList.drop (k + 2)) = b) := by
            have := HK.out
            rw [drop_cons p k hk0, drop_cons p (k + 1) hlt, hc, hd, sc_open] at this
            exact this
          clear hc hd HK
          have HI := Try.strings_Index (p.extract (k + 2) p.size) ⟨#[92, 69]⟩ m w (by rw [extract_size]; omega) hm
          rcases index_two_cases p (k + 2) with hx | ⟨j, hx, hj⟩
          · have HX : b = true := by
              have := (sc_quote (p.data.toList.drop (k + 2))).1 (by rw [← extract_to_end]; exact hx)
              rw [← HO.out, this]
            subst HX
            rw [show index (p.extract (k + 2) p.size).data.toList (ByteArray.mk #[92, 69]).data.toList = -1 from hx] at HI
            clear hx HO hm
            go_wp2_with (go_at_call 22; refine HI.mono ?_; rintro e w' ⟨rfl, rfl⟩)
            go_ret
            exact ⟨rfl, rfl⟩
          · have HX : Hid (sc 0 (p.data.toList.drop (k + 2 + (j + 2))) = b) := by
              have := (sc_quote (p.data.toList.drop (k + 2))).2 j (by rw [← extract_to_end]; exact hx)
              rw [HO.out, List.drop_drop] at this
              exact this.symm
            rw [show index (p.extract (k + 2) p.size).data.toList (ByteArray.mk #[92, 69]).data.toList = (j : Int) from hx] at HI
            clear hx HO hm
            go_wp2_with (go_at_call 22; refine HI.mono ?_; rintro e w' ⟨rfl, rfl⟩)
            go_round
            case rel => exact ⟨k + 2 + (j + 2), by omega, by go_num, HX⟩
            case measure => simp [RowKit.intOf]; omega
        · have g2 : ((p[k + 1].toNat : Int) != 81) = true := by
            simp; intro hn; exact hd (byte_eq_of_toNat (by simpa using hn))
          have HO : Hid (sc 0 (p.data.toList.drop (k + 2)) = b) := by
            have := HK.out
            rw [drop_cons p k hk0, drop_cons p (k + 1) hlt, hc, sc_esc _ _ hd] at this
            exact this
          clear hc hd HK hm
          go_wp2
          go_round
          case rel => exact ⟨k + 2, by omega, by go_num, HO⟩
          case measure => simp [RowKit.intOf]; omega
      · have g : ((p[k].toNat : Int) != 92) = true := by
          simp; intro hn; exact hc (byte_eq_of_toNat (by simpa using hn))
        have HO : Hid (sc 0 (p.data.toList.drop (k + 1)) = b) := by
          have := HK.out
          rw [drop_cons p k hk0, sc_plain _ _ hc] at this
          exact this
        clear hc HK hm
        go_wp2
        go_round
        case rel => exact ⟨k + 1, by omega, by go_num, HO⟩
        case measure => simp [RowKit.intOf]; omega
    · have hl2 : ¬ (k : Int) < (p.size : Int) - 1 := by omega
      have hf : b = false := by
        rw [← HK.out]
        exact sc_short _ (by rw [List.length_drop, ← size_eq]; omega)
      subst hf
      clear HK hm
      go_wp2
      go_ret
      exact ⟨rfl, rfl⟩

theorem zzquoted_any (p : ByteArray) (b : Bool) (m : Int) (w : World) (hs : p.size ≤ 2000000) (hb : Hid (sc 0 p.data.toList = b)) (hm : w.cell? ⟨0, 0, none⟩ = some (.int .i64 m)) :
    Calls Try.prog 15 #[.string p] w fun e w' => e = .returned (.bool b) ∧ w' = w := by
  have H := quoted_any p b m w hs hb hm
  clear hb hm
  go_enter Try.func15, Try.ntmps15
  go_wp2_with (go_at_call 20; refine H.mono ?_; rintro e w' ⟨rfl, rfl⟩)
  go_ret
  exact ⟨rfl, rfl⟩

end Go.Proofs.Qxb6604056a

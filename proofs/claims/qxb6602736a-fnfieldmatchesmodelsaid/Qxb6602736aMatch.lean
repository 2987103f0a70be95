/-
  The walk of FnFieldMatchesModel: too long a string; no space; the first space at i.
-/
import Derived.Test.Qxb6602736aRows
import Derived.Test.Qxb6602736aField
import Derived.WalkKit
import Derived.WalkSpells
namespace Go.Proofs.Qxb6602736a
open Go.RowKit Go.Lib

theorem zzb_match (s : ByteArray) (w : World) (hs : s.size ≤ 1048576) :
    Calls Try.prog 14 #[.string s] w fun e w' => e = .returned (.bool true) ∧ w' = w := by
  go_enter Try.func14, Try.ntmps14
  go_wp2
  go_ret
  exact ⟨rfl, rfl⟩

theorem match_long (s : ByteArray) (w : World) (w0 : s.size ≤ maxLen) (hs : ¬ s.size ≤ 1048576) :
    Calls Try.prog 5 #[.string s] w fun e w' => e = .returned (.bool true) ∧ ∃ n, w' = w.drewN n := by
  unfold maxLen at w0
  have h1 : (1048576 : Int) < s.size := by omega
  go_enter Try.func5, Try.ntmps5
  go_wp2
  go_ret
  exact ⟨rfl, 0, rfl⟩

set_option maxHeartbeats 400000 in
theorem match_hit (s : ByteArray) (i : Nat) (m : Int) (w : World) (hs : s.size ≤ 1048576) (hix : indexB s ⟨#[32]⟩ = i) (hroom : i + 1 ≤ s.size) (hm : w.cell? ⟨0, 0, none⟩ = some (.int .i64 m)) :
    Calls Try.prog 5 #[.string s] w fun e w' => e = .returned (.bool true) ∧ ∃ n, w' = w.drewN n := by
  have H := zzfield_hit s i m w (by omega) hix hroom hm
  obtain ⟨g1, g2⟩ := space_hit s i hix (by omega)
  clear hix hm
  have HB := zzb_match s w hs
  go_enter Try.func5, Try.ntmps5
  go_wp2_with (first | (go_at_call 14; refine HB.mono ?_; rintro e w' ⟨rfl, rfl⟩) | (go_at_call 15; refine H.mono ?_; rintro e w' ⟨rfl, n, rfl⟩))
  clear H HB
  go_loop [6, 7] (fun t k => ∃ j : Nat, j ≤ i ∧ k = .int .i64 j ∧ t = .int .i64 (-1)) (fun _ k => s.size - (RowKit.intOf k).toNat)
  case atStart => exact ⟨0, Nat.zero_le _, rfl, rfl⟩
  case round =>
    obtain ⟨j, hj, rfl, rfl⟩ := hrel
    by_cases hlt : j < i
    · have g := g2 j hlt
      have hjs : j < s.size := by omega
      clear g1 g2
      go_wp2
      go_round
      case rel => exact ⟨j + 1, by omega, by go_num, rfl⟩
      case measure => simp [RowKit.intOf]; omega
    · have : j = i := by omega
      subst this
      clear g2
      have hjs : j < s.size := by omega
      go_wp2
      go_ret
      exact ⟨rfl, n, rfl⟩

set_option maxHeartbeats 400000 in
theorem match_miss (s : ByteArray) (m : Int) (w : World) (hs : s.size ≤ 1048576) (hix : indexB s ⟨#[32]⟩ = -1) (hm : w.cell? ⟨0, 0, none⟩ = some (.int .i64 m)) :
    Calls Try.prog 5 #[.string s] w fun e w' => e = .returned (.bool true) ∧ ∃ n, w' = w.drewN n := by
  have H := zzfield_miss s m w (by omega) hix hm
  have g2 := space_miss s hix
  clear hix hm
  have HB := zzb_match s w hs
  go_enter Try.func5, Try.ntmps5
  go_wp2_with (first | (go_at_call 14; refine HB.mono ?_; rintro e w' ⟨rfl, rfl⟩) | (go_at_call 15; refine H.mono ?_; rintro e w' ⟨rfl, n, rfl⟩))
  clear H HB
  go_loop [6, 7] (fun t k => ∃ j : Nat, j ≤ s.size ∧ k = .int .i64 j ∧ t = .int .i64 (-1)) (fun _ k => s.size - (RowKit.intOf k).toNat)
  case atStart => exact ⟨0, Nat.zero_le _, rfl, rfl⟩
  case round =>
    obtain ⟨j, hj, rfl, rfl⟩ := hrel
    by_cases hlt : j < s.size
    · have g := g2 j hlt
      clear g2
      go_wp2
      go_round
      case rel => exact ⟨j + 1, by omega, by go_num, rfl⟩
      case measure => simp [RowKit.intOf]; omega
    · clear g2
      go_wp2
      go_ret
      exact ⟨rfl, n, rfl⟩

theorem match_any (s : ByteArray) (m : Int) (w : World) (w0 : s.size ≤ maxLen) (hm : w.cell? ⟨0, 0, none⟩ = some (.int .i64 m)) :
    Calls Try.prog 5 #[.string s] w fun e w' => e = .returned (.bool true) ∧ Grown w w' := by
  have fin : Calls Try.prog 5 #[.string s] w fun e w' => e = .returned (.bool true) ∧ ∃ n, w' = w.drewN n := by
    by_cases hs : s.size ≤ 1048576
    · rcases indexB_cases s ⟨#[32]⟩ with h | ⟨i, h, hr⟩
      · exact match_miss s m w hs h hm
      · exact match_hit s i m w hs h hr hm
    · exact match_long s w w0 hs
  refine fin.mono ?_
  rintro e w' ⟨he, n, rfl⟩
  exact ⟨he, Grown.refl w⟩

end Go.Proofs.Qxb6602736a

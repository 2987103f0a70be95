/-
  The contract of labelsOf: it lays the labels of a name in a new row of strings.
-/
import Derived.Test.Qxb6602915aRows
import Derived.Test.Qxb6602915aPlain
import Derived.WalkKit
import Derived.WalkSpells
import Derived.WalkSmall
import Derived.Lib.Strings
import Derived.Lib.IndexBytes
namespace Go.Proofs.Qxb6602915a
open Go.RowKit Go.Lib

theorem info9 : (Try.prog.info? 9).map (fun i => (i.zero, i.size, i.bytes)) = some (some (.string ⟨#[]⟩), 1, 16) := by kernel_rfl

def strV (l : List UInt8) : Value := .string ⟨l.toArray⟩

theorem take_snoc (s : ByteArray) (k : Nat) (h : k < s.size) : s.data.toList.take (k + 1) = s.data.toList.take k ++ [s[k]] := by
  rw [List.take_succ_eq_append_getElem (by rw [← size_eq]; exact h)]; rfl

theorem count_le (s : ByteArray) (k : Nat) : (s.data.toList.take k).count 46 ≤ k := by
  have h1 := List.count_le_length (a := (46 : UInt8)) (l := s.data.toList.take k)
  have h2 := List.length_take_le k s.data.toList
  omega

/-- The labels from st on, where the bytes from st to k are no 46 and that at k is one. -/
theorem labels_at (s : ByteArray) (st k : Nat) (h1 : st ≤ k) (h2 : k < s.size) (hno : ∀ j, st ≤ j → (hj : j < k) → s[j] ≠ 46) (hk : s[k] = 46) :
    labels (s.data.toList.drop st) = (s.extract st k).data.toList :: labels (s.data.toList.drop (k + 1)) := by
  have e : s.data.toList.drop st = (s.extract st k).data.toList ++ 46 :: s.data.toList.drop (k + 1) := by
    rw [extract_data]
    have hl : k < s.data.toList.length := by rw [← size_eq]; exact h2
    have e1 : s.data.toList.drop st = (s.data.toList.drop st).take (k - st) ++ (s.data.toList.drop st).drop (k - st) := (List.take_append_drop _ _).symm
    have e2 : (s.data.toList.drop st).drop (k - st) = 46 :: s.data.toList.drop (k + 1) := by
      rw [List.drop_drop, show st + (k - st) = k from by omega, List.drop_eq_getElem_cons hl]
      rw [← hk]; rfl
    rw [e2] at e1
    exact e1
  rw [e]
  refine labels_dot _ _ ?_
  intro c hc
  rw [extract_data] at hc
  obtain ⟨i, hi, rfl⟩ := List.mem_iff_getElem.1 hc
  rw [List.length_take, List.length_drop] at hi
  have hlt : st + i < k := by omega
  have := hno (st + i) (by omega) hlt
  rw [List.getElem_take, List.getElem_drop]
  exact this

/-- The labels from st on, where no 46 follows. -/
theorem labels_rest (s : ByteArray) (st : Nat) (hno : ∀ j, st ≤ j → (hj : j < s.size) → s[j] ≠ 46) :
    labels (s.data.toList.drop st) = [(s.extract st s.size).data.toList] := by
  rw [extract_to_end]
  refine labels_plain _ ?_
  intro c hc
  obtain ⟨i, hi, rfl⟩ := List.mem_iff_getElem.1 hc
  rw [List.length_drop] at hi
  have hlt : st + i < s.size := by rw [size_eq]; omega
  have := hno (st + i) (by omega) hlt
  rw [List.getElem_drop]
  exact this

theorem strV_extract (s : ByteArray) (a b : Nat) : strV (s.extract a b).data.toList = .string (s.extract a b) := by
  unfold strV; rw [mk_data]

/-- What one append does to the relation: outside the walk. -/
theorem rel_app {B : Nat} {w wr w1 : World} {v v' : Value} {ls : List (List UInt8)} {o : Obj} {y : ByteArray} (hown : wr.ownsRow B 9 1 v ls.length (ls.map strV)) (hnx : Below B w wr) (hB : B ≤ wr.heap.size)
    (hown' : w1.ownsRow B 9 1 v' (ls.length + 1) (ls.map strV ++ [.string y])) (hgrow : (wr.alloc o).grownBy w1 v.ownBlock) :
    w1.ownsRow B 9 1 v' (ls ++ [y.data.toList]).length ((ls ++ [y.data.toList]).map strV) ∧ Below B w w1 := by
  constructor
  · have e : (ls ++ [y.data.toList]).map strV = ls.map strV ++ [.string y] := by
      rw [List.map_append]
      show _ ++ [strV y.data.toList] = _
      unfold strV
      rw [mk_data]
    rw [e, List.length_append]
    exact hown'
  · refine (hnx.alloc hB o).grown hgrow (by simp; omega) ?_
    intro k hk
    rcases hown.2 with ⟨rfl, _⟩ | ⟨g, cap, cur, rfl, hb, _⟩
    · cases hk
    · cases hk; exact hb

set_option maxHeartbeats 1000000 in
theorem labelsOf_any (s : ByteArray) (w : World) (hs : s.size ≤ 262144) :
    Calls Try.prog 11 #[.string s] w fun e w' => ∃ v, e = .returned v ∧ w'.ownsRow w.heap.size 9 1 v (labels s.data.toList).length ((labels s.data.toList).map strV) ∧ Below w.heap.size w w' := by
  obtain ⟨i0, hi, hz0, hz1, hz2⟩ := info_parts info9
  go_enter Try.func11, Try.ntmps11
  go_wp2
  go_loop [3, 4] (fun n i => ∃ k c : Nat, k ≤ s.size ∧ c ≤ k ∧ i = .int .i64 k ∧ n = .int .i64 ((c : Int) + 1)) (fun _ i => s.size - (RowKit.intOf i).toNat)
  case atStart => exact ⟨0, 0, Nat.zero_le _, Nat.le_refl _, rfl, rfl⟩
  case round =>
    obtain ⟨k, c, hk, hck, rfl, rfl⟩ := hrel
    by_cases hlt : k < s.size
    · by_cases hc : s[k] = 46
      · have g : ((s[k].toNat : Int) == 46) = true := by simp [hc]
        clear hc
        go_wp2
        go_round
        case rel => exact ⟨k + 1, c + 1, by omega, by omega, by go_num, by go_num⟩
        case measure => simp [RowKit.intOf]; omega
      · have g : ((s[k].toNat : Int) == 46) = false := by
          simp; intro hn; exact hc (byte_eq_of_toNat (by simpa using hn))
        clear hc
        go_wp2
        go_round
        case rel => exact ⟨k + 1, c, by omega, by omega, by go_num, rfl⟩
        case measure => simp [RowKit.intOf]; omega
    · go_wp2_with (at_make; refine wpList_make_own _ rfl _ _ 39 rfl w.heap.size 9 i0 (.string ⟨#[]⟩) 1 Try.underlying39 hi hz0 hz1 .i64 .i64 _ (c + 1) rfl rfl (by omega) (by rw [hz2]; omega) (by unfold maxLen; omega) (Nat.le_refl _) ?_; intro w0 hown0 hgrow0)
      clear hlt
      go_loopw [5, 6, 7] (fun v t i wr => ∃ (j st : Nat) (ls : List (List UInt8)), j ≤ s.size ∧ st ≤ j ∧ ls.length ≤ j ∧ i = .int .i64 j ∧ t = .int .i64 st ∧ wr.ownsRow w.heap.size 9 1 v ls.length (ls.map strV) ∧ Below w.heap.size w wr ∧ Hid (labels s.data.toList = ls ++ labels (s.data.toList.drop st)) ∧ Hid (∀ x, st ≤ x → (hx : x < j) → ∀ hy : x < s.size, s[x] ≠ 46)) (fun _ _ i _ => s.size - (RowKit.intOf i).toNat)
      case atStart => exact ⟨0, 0, [], Nat.zero_le _, Nat.le_refl _, Nat.le_refl _, rfl, rfl, hown0, (Below.refl _ _).grown hgrow0 (Nat.le_refl _) (fun k h => by cases h), rfl, fun x h1 h2 => by omega⟩
      case round =>
        clear hown0 hgrow0
        obtain ⟨j, st, ls, hj, hst, hls, rfl, rfl, hown, hnx, HL, HN⟩ := hrel
        have hsz := hnx.size
        by_cases hlt : j < s.size
        · by_cases hc : s[j] = 46
          · have g : ((s[j].toNat : Int) == 46) = true := by simp [hc]
            have HL2 : Hid (labels s.data.toList = (ls ++ [(s.extract st j).data.toList]) ++ labels (s.data.toList.drop (j + 1))) := by
              have := HL.out
              rw [labels_at s st j hst hlt (fun x h1 h2 => HN.out x h1 h2 (by omega)) hc] at this
              rw [List.append_assoc]
              exact this
            clear hc HL HN
            go_wp2_with (at_builtin; refine wpList_append_own _ rfl _ _ 39 rfl w.heap.size 9 i0 (.string ⟨#[]⟩) 1 16 Try.underlying39 hi hz0 hz1 hz2 rfl (by decide) _ _ _ rfl (hown.alloc _) ⟨wr.heap.size, 0, none⟩ 1 1 [.string (s.extract st j)] rfl rfl ?c1 ?c2 ?c3 ?c4 ?c5 ?_)
            case c1 =>
              intro i u hi
              match i, hi with
              | 0, hi => simp at hi; subst hi; simp [Addr.add]
            case c2 => intro u hu; simp at hu; subst hu; rfl
            case c3 => unfold maxLen; omega
            case c4 => omega
            case c5 => simp; omega
            intro v' w1 hown' hgrow _
            have R := rel_app hown hnx hsz hown' hgrow
            obtain ⟨R1, R2⟩ := R
            clear hown' hgrow hown hnx hsz
            go_wp2
            go_roundw
            case rel => exact ⟨j + 1, j + 1, ls ++ [(s.extract st j).data.toList], by omega, Nat.le_refl _, by simp; omega, by go_num, by go_num, R1, R2, HL2, fun x h1 h2 => by omega⟩
            case measure => simp [RowKit.intOf]; omega
          · have g : ((s[j].toNat : Int) == 46) = false := by
              simp; intro hn; exact hc (byte_eq_of_toNat (by simpa using hn))
            have HN2 : Hid (∀ x, st ≤ x → (hx : x < j + 1) → ∀ hy : x < s.size, s[x] ≠ 46) := fun x h1 h2 h3 => by
              by_cases e : x = j
              · subst e; exact hc
              · exact HN.out x h1 (by omega) h3
            clear hc HN
            go_wp2
            go_roundw
            case rel => exact ⟨j + 1, st, ls, by omega, by omega, by omega, by go_num, rfl, hown, hnx, HL, HN2⟩
            case measure => simp [RowKit.intOf]; omega
        · have HL2 : Hid (labels s.data.toList = ls ++ [(s.extract st s.size).data.toList]) := by
            have := HL.out
            rw [labels_rest s st (fun x h1 h2 => HN.out x h1 (by omega) h2)] at this
            exact this
          clear HL HN
          have hst2 : (st : Int) ≤ s.size := by omega
          go_wp2_with (at_builtin; refine wpList_append_own _ rfl _ _ 39 rfl w.heap.size 9 i0 (.string ⟨#[]⟩) 1 16 Try.underlying39 hi hz0 hz1 hz2 rfl (by decide) _ _ _ rfl (hown.alloc _) ⟨wr.heap.size, 0, none⟩ 1 1 [.string (s.extract st s.size)] rfl rfl ?d1 ?d2 ?d3 ?d4 ?d5 ?_)
          case d1 =>
            intro i u hi
            match i, hi with
            | 0, hi => simp at hi; subst hi; simp [Addr.add]
          case d2 => intro u hu; simp at hu; subst hu; rfl
          case d3 => unfold maxLen; omega
          case d4 => omega
          case d5 => simp; omega
          intro v' w1 hown' hgrow _
          have R := rel_app hown hnx hsz hown' hgrow
          rw [← HL2.out] at R
          obtain ⟨R1, R2⟩ := R
          clear hown' hgrow hown hnx hsz
          have R1' : Hid _ := R1
          clear R1
          go_wp2
          go_ret
          exact ⟨_, rfl, R1', R2⟩

end Go.Proofs.Qxb6602915a

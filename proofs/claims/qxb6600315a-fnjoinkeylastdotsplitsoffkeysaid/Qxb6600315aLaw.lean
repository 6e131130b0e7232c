/- The walk of FnJoinKeyLastDotSplitsOffKey. -/
import Derived.Test.Qxb6600315aProg
import Derived.WalkKit
import Derived.WalkLawsBesides
import Derived.WalkSpells
import Derived.Laws.Concat
namespace Go.Proofs.Qxb6600315a
open Go.RowKit
set_option linter.unusedVariables false

theorem ret_bool {a b : Bool} (h : a = b) : Ending.returned (.bool a) = .returned (.bool b) := by rw [h]
theorem ret_int {k : IntKind} {a b : Int} (h : a = b) : Ending.returned (.int k a) = .returned (.int k b) := by rw [h]

/-- Byte k of s, 0 beyond its end. -/
def byt (s : ByteArray) (k : Nat) : Int := if h : k < s.size then ((s[k]'h).toNat : Int) else 0
/-- A text with a dot in it. -/
def hasDot (s : ByteArray) : Prop := ∃ j, j < s.size ∧ byt s j = 46

theorem byt_at (s : ByteArray) (k : Nat) (h : k < s.size) : ((s[k]'h).toNat : Int) = byt s k := by unfold byt; rw [dif_pos h]

set_option maxHeartbeats 400000 in
theorem hasdot_yes (s : ByteArray) (w : World) (hs : s.size ≤ 4611686018427387904) (hy : Hid (hasDot s)) :
    Calls Try.prog 9 #[.string s] w fun e w' => e = .returned (.bool true) ∧ w' = w := by
  go_enter Try.func9, Try.ntmps9
  go_wp2
  go_loop [3] (fun i => ∃ k : Nat, k ≤ s.size ∧ i = .int .i64 k ∧ Hid (∀ j, j < k → byt s j ≠ 46)) (fun i => s.size - (intOf i).toNat)
  case atStart => exact ⟨0, Nat.zero_le _, rfl, (by intro j hj; omega)⟩
  case round =>
    obtain ⟨k, hk, rfl, HA⟩ := hrel
    by_cases hlt : k < s.size
    · have hb := byt_at s k hlt
      by_cases hd : byt s k = 46
      · have ht : (((s[k]'hlt).toNat : Int) == 46) = true := by rw [hb]; simpa using hd
        have HD : Hid (hasDot s) := ⟨k, hlt, hd⟩
        clear hb hd
        go_wp2
        go_ret
        exact ⟨rfl, rfl⟩
      · have ht : (((s[k]'hlt).toNat : Int) == 46) = false := by rw [hb]; simpa using hd
        have HA2 : Hid (∀ j, j < k + 1 → byt s j ≠ 46) := by
          intro j hj
          by_cases e : j = k
          · subst e; exact hd
          · exact HA.out j (by omega)
        clear hb hd HA
        go_wp2
        go_round
        case rel => exact ⟨k + 1, by omega, by go_num, HA2⟩
        case measure => simp [intOf]; omega
    · have HN : Hid (¬ hasDot s) := by
        rintro ⟨j, hj, e⟩
        exact HA.out j (by omega) e
      exact absurd hy.out HN.out

set_option maxHeartbeats 400000 in
theorem hasdot_no (s : ByteArray) (w : World) (hs : s.size ≤ 4611686018427387904) (hy : Hid (¬ hasDot s)) :
    Calls Try.prog 9 #[.string s] w fun e w' => e = .returned (.bool false) ∧ w' = w := by
  go_enter Try.func9, Try.ntmps9
  go_wp2
  go_loop [3] (fun i => ∃ k : Nat, k ≤ s.size ∧ i = .int .i64 k ∧ Hid (∀ j, j < k → byt s j ≠ 46)) (fun i => s.size - (intOf i).toNat)
  case atStart => exact ⟨0, Nat.zero_le _, rfl, (by intro j hj; omega)⟩
  case round =>
    obtain ⟨k, hk, rfl, HA⟩ := hrel
    by_cases hlt : k < s.size
    · have hb := byt_at s k hlt
      by_cases hd : byt s k = 46
      · have ht : (((s[k]'hlt).toNat : Int) == 46) = true := by rw [hb]; simpa using hd
        have HD : Hid (hasDot s) := ⟨k, hlt, hd⟩
        exact absurd HD.out hy.out
      · have ht : (((s[k]'hlt).toNat : Int) == 46) = false := by rw [hb]; simpa using hd
        have HA2 : Hid (∀ j, j < k + 1 → byt s j ≠ 46) := by
          intro j hj
          by_cases e : j = k
          · subst e; exact hd
          · exact HA.out j (by omega)
        clear hb hd HA
        go_wp2
        go_round
        case rel => exact ⟨k + 1, by omega, by go_num, HA2⟩
        case measure => simp [intOf]; omega
    · have HN : Hid (¬ hasDot s) := by
        rintro ⟨j, hj, e⟩
        exact HA.out j (by omega) e
      clear HA
      go_wp2
      go_ret
      exact ⟨rfl, rfl⟩

set_option maxHeartbeats 400000 in
theorem lastdot_at (s : ByteArray) (p : Nat) (w : World) (hs : s.size ≤ 4611686018427387904) (hp : p < s.size) (hd : byt s p = 46) (hno : ∀ j, p < j → j < s.size → byt s j ≠ 46) :
    Calls Try.prog 11 #[.string s] w fun e w' => e = .returned (.int .i64 p) ∧ w' = w := by
  have HD : Hid (byt s p = 46) := hd
  have HNO : Hid (∀ j, p < j → j < s.size → byt s j ≠ 46) := hno
  clear hd hno
  go_enter Try.func11, Try.ntmps11
  go_wp2
  go_loop [3] (fun i => ∃ k : Nat, p ≤ k ∧ k < s.size ∧ i = .int .i64 k) (fun i => (intOf i).toNat)
  case atStart => exact ⟨s.size - 1, by omega, by omega, by go_num⟩
  case round =>
    obtain ⟨k, hk, hlt, rfl⟩ := hrel
    have hb := byt_at s k hlt
    by_cases e : k = p
    · subst e
      have ht : (((s[k]'hlt).toNat : Int) == 46) = true := by rw [hb]; simpa using HD.out
      clear hb
      go_wp2
      go_ret
      exact ⟨rfl, rfl⟩
    · have hne := HNO.out k (by omega) hlt
      have ht : (((s[k]'hlt).toNat : Int) == 46) = false := by rw [hb]; simpa using hne
      clear hb hne
      go_wp2
      go_round
      case rel => exact ⟨k - 1, by omega, by omega, by go_num⟩
      case measure => simp [intOf]; omega

/-- What joinKey makes of a path that is not empty. -/
def joined (a b : ByteArray) : ByteArray := (a ++ ⟨#[46]⟩) ++ b

theorem joined_list (a b : ByteArray) : (joined a b).data.toList = a.data.toList ++ (46 :: b.data.toList) := by
  unfold joined
  rw [ByteArray.data_append, ByteArray.data_append, Array.toList_append, Array.toList_append]
  simp
theorem joined_size (a b : ByteArray) : (joined a b).size = a.size + 1 + b.size := by
  unfold joined
  rw [ByteArray.size_append, ByteArray.size_append]
  rfl

theorem byt_list (s : ByteArray) (k : Nat) : byt s k = match s.data.toList[k]? with
    | none => 0
    | some c => (c.toNat : Int) := by
  unfold byt
  by_cases h : k < s.size
  · have h' : k < s.data.toList.length := by simpa using h
    rw [dif_pos h, List.getElem?_eq_getElem h']
    rfl
  · have h' : s.data.toList.length ≤ k := by simp; show s.size ≤ k; omega
    rw [dif_neg h, List.getElem?_eq_none h']

theorem joined_dot (a b : ByteArray) : byt (joined a b) a.size = 46 := by
  rw [byt_list, joined_list]
  have : a.size = a.data.toList.length := by simp
  rw [this, List.getElem?_append_right (Nat.le_refl _)]
  simp

theorem joined_no (a b : ByteArray) (h : ¬ hasDot b) : ∀ j, a.size < j → j < (joined a b).size → byt (joined a b) j ≠ 46 := by
  intro j h1 h2 e
  rw [joined_size] at h2
  apply h
  refine ⟨j - a.size - 1, by omega, ?_⟩
  rw [← e, byt_list, byt_list, joined_list]
  have ha : a.size = a.data.toList.length := by simp
  rw [List.getElem?_append_right (by omega)]
  have : j - a.data.toList.length = (j - a.size - 1) + 1 := by omega
  rw [this, List.getElem?_cons_succ]

theorem joined_left (a b : ByteArray) : (joined a b).extract 0 a.size = a := by
  apply ByteArray.ext
  rw [ByteArray.data_extract]
  apply Array.ext'
  have ha : a.size = a.data.toList.length := by simp
  rw [Array.toList_extract, joined_list, ha]
  simp

theorem joined_right (a b : ByteArray) : (joined a b).extract (a.size + 1) (joined a b).size = b := by
  apply ByteArray.ext
  rw [ByteArray.data_extract]
  apply Array.ext'
  have ha : a.size = a.data.toList.length := by simp
  have hb : b.size = b.data.toList.length := by simp
  rw [Array.toList_extract, joined_list, joined_size, ha, hb]
  have e : a.data.toList ++ (46 :: b.data.toList) = (a.data.toList ++ [46]) ++ b.data.toList := by simp
  rw [List.extract_eq_take_drop, e, List.drop_left' (by simp)]
  exact List.take_of_length_le (by omega)

set_option maxHeartbeats 400000 in
theorem joinkey_any (a b : ByteArray) (w : World) (ha : a.toList.isEmpty = false) (h : a.size + b.size ≤ 1048576) :
    Calls Try.prog 10 #[.string a, .string b] w fun e w' => e = .returned (.string (joined a b)) ∧ w' = w := by
  obtain ⟨t1, HT1⟩ : ∃ t1, Hid (t1 = a ++ (⟨#[46]⟩ : ByteArray)) := ⟨_, Eq.refl _⟩
  obtain ⟨t2, HT2⟩ : ∃ t2, Hid (t2 = t1 ++ b) := ⟨_, Eq.refl _⟩
  have hs1 : t1.size = a.size + 1 := by rw [HT1.out, ByteArray.size_append]; rfl
  have had1 : ∀ W, (Op.stringOp .add a (⟨#[46]⟩ : ByteArray)).run Try.prog W = .ok (.string t1) W := by
    intro W; rw [HT1.out]; exact run_string_add_sum W _ _ (by show a.size + 1 ≤ _; omega)
  have had2 : ∀ W, (Op.stringOp .add t1 b).run Try.prog W = .ok (.string t2) W := by
    intro W; rw [HT2.out]; exact run_string_add_sum W _ _ (by rw [hs1]; omega)
  have HJ : Hid (joined a b = t2) := by show joined a b = t2; rw [HT2.out, HT1.out]; rfl
  rw [HJ.out]
  clear hs1
  go_enter Try.func10, Try.ntmps10
  go_wp2
  go_ret
  exact ⟨rfl, rfl⟩

set_option maxHeartbeats 400000 in
theorem bound8 (a b : ByteArray) (w : World) (ha : a.size ≤ 9223372036854775807) (hb : b.size ≤ 9223372036854775807) :
    Calls Try.prog 8 #[.string a, .string b] w fun e w' => (∃ x : Bool, e = .returned (.bool x) ∧ (x = true → a.size + b.size ≤ 1048576)) ∧ w' = w := by
  go_enter Try.func8, Try.ntmps8
  go_wp2
  all_goals go_ret
  all_goals exact ⟨⟨_, rfl, by simp; try omega⟩, rfl⟩

set_option maxHeartbeats 800000 in
theorem walk3 (a b : ByteArray) (ha : a.size ≤ 9223372036854775807) (hb : b.size ≤ 9223372036854775807) (w : World) :
    Calls Try.prog 3 #[.string a, .string b] w fun e w' => e = .returned (.bool true) ∧ Below w.heap.size w w' := by
  go_enter Try.func3, Try.ntmps3
  go_wp2_with fail
  refine (bound8 _ _ _ ha hb).mono ?_
  rintro e w' ⟨⟨x, rfl, hx⟩, rfl⟩
  cases x with
  | false =>
    go_wp2_with fail
    go_ret
    exact ⟨rfl, Below.refl _ _⟩
  | true =>
    have hle : a.size + b.size ≤ 1048576 := hx rfl
    clear hx
    by_cases he : a.toList.isEmpty = true
    · go_wp2_with fail
      go_ret
      exact ⟨rfl, Below.refl _ _⟩
    have he' : a.toList.isEmpty = false := by simpa using he
    clear he
    by_cases hd : hasDot b
    · have HD : Hid (hasDot b) := hd
      clear hd
      go_wp2_with fail
      refine (hasdot_yes b _ (by omega) HD).mono ?_
      rintro e w1 ⟨rfl, rfl⟩
      go_wp2_with fail
      go_ret
      exact ⟨rfl, Below.refl _ _⟩
    · have HD : Hid (¬ hasDot b) := hd
      clear hd
      go_wp2_with fail
      refine (hasdot_no b _ (by omega) HD).mono ?_
      rintro e w1 ⟨rfl, rfl⟩
      go_wp2_with fail
      refine (joinkey_any a b _ he' hle).mono ?_
      rintro e w1 ⟨rfl, rfl⟩
      obtain ⟨j, HJ⟩ : ∃ j, Hid (j = joined a b) := ⟨_, Eq.refl _⟩
      rw [← HJ.out]
      have hjs : j.size = a.size + 1 + b.size := by rw [HJ.out]; exact joined_size a b
      have HL : Hid (∀ W, Calls Try.prog 11 #[.string j] W fun e w' => e = .returned (.int .i64 a.size) ∧ w' = W) := by
        intro W
        rw [HJ.out]
        exact lastdot_at _ a.size W (by rw [joined_size]; omega) (by rw [joined_size]; omega) (joined_dot a b) (joined_no a b HD.out)
      have hl : j.extract 0 a.size = a := by rw [HJ.out]; exact joined_left a b
      have hr : j.extract (a.size + 1) j.size = b := by rw [HJ.out]; exact joined_right a b
      have hnl : a.size ≤ j.size := by omega
      have hnr : a.size + 1 ≤ j.size := by omega
      have HJS : Hid (j.size = a.size + 1 + b.size) := hjs
      clear hjs
      go_wp2_with fail
      refine (HL.out _).mono ?_
      rintro e w1 ⟨rfl, rfl⟩
      go_wp2_with fail
      go_ret
      exact ⟨rfl, Below.refl _ _⟩
end Go.Proofs.Qxb6600315a

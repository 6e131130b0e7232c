/- The contract of isDigits. -/
import Derived.Test.Qxb6001608aProg
import Derived.WalkKit
import Derived.WalkLawsBesides
import Derived.WalkSpells
import Derived.PlainAid
import Derived.Laws.IdiomStrings
namespace Go.Proofs.Qxb6001608a
open Go.RowKit
set_option linter.unusedVariables false

/-- One byte is a digit. -/
def dig1 (c : UInt8) : Bool := 48 ≤ c && c ≤ 57
/-- A text of digits: not empty, each byte a digit. -/
def digL (l : List UInt8) : Bool := !l.isEmpty && l.all dig1

/-- The world behind '[]byte(s)'. -/
def bytesW (w : World) (s : ByteArray) : World :=
  w.drew.alloc (.cells (bytesRow s (grownCap w s.size 0 5)) 5 ((bytesRow s (grownCap w s.size 0 5)).size, (bytesRow s (grownCap w s.size 0 5)).size + 1))

theorem bytesW_below (w : World) (s : ByteArray) : Below w.heap.size w (bytesW w s) := (Below.refl _ _).drew.alloc (Nat.le_refl _) _
theorem bytesW_cell (w : World) (s : ByteArray) (k : Nat) (hk : k < s.size) : (bytesW w s).cell? ⟨w.heap.size, k, none⟩ = some (.int .u8 (s[k].toNat : Int)) := by
  have h : (bytesW w s).heap[w.heap.size]? = some (.cells (bytesRow s (grownCap w s.size 0 5)) 5 ((bytesRow s (grownCap w s.size 0 5)).size, (bytesRow s (grownCap w s.size 0 5)).size + 1)) := by
    show (w.heap.push _)[w.heap.size]? = _
    simp
  simp only [World.cell?, h]
  have hk' : k < s.data.size := hk
  simp only [bytesRow]
  rw [Array.getElem?_append_left (by simpa using hk')]
  simp only [Array.getElem?_map, Array.getElem?_eq_getElem hk', Option.map_some]
  rfl

theorem ret_bool {a b : Bool} (h : a = b) : Ending.returned (.bool a) = .returned (.bool b) := by rw [h]

theorem all_take (s : ByteArray) (k : Nat) (h : k < s.size) : (s.data.toList.take (k + 1)).all dig1 = ((s.data.toList.take k).all dig1 && dig1 s[k]) := by
  rw [List.take_succ_eq_append_getElem (by simpa using h), List.all_append]
  simp
  rfl

theorem dig1_iff (c : UInt8) : dig1 c = true ↔ 48 ≤ (c.toNat : Int) ∧ (c.toNat : Int) ≤ 57 := by
  unfold dig1
  simp [UInt8.le_iff_toNat_le]
  omega

set_option maxHeartbeats 400000 in
theorem isdigits_any (s : ByteArray) (w : World) (hs : s.size ≤ 4611686018427387904) :
    Calls Try.prog 10 #[.string s] w fun e w' => e = .returned (.bool (digL s.data.toList)) ∧ Below w.heap.size w w' := by
  have hcv : ∀ W, (convert 9 25 (.string s)).run Try.prog W = .ok (.slice (some ⟨W.heap.size, 0, none⟩) s.size (grownCap W s.size 0 5)) (bytesW W s) := fun W => run_bytes_of_string (P := Try.prog) W 9 25 5 s Try.underlying9 Try.underlying25 Try.underlying5
  by_cases he : s.toList.isEmpty = true
  · have hE : digL s.data.toList = false := by
      rw [ByteArray.toList_eq] at he
      simp [digL, he]
    rw [hE]
    clear hE
    go_enter Try.func10, Try.ntmps10
    go_wp2
    go_ret
    exact ⟨rfl, Below.refl _ _⟩
  · have he' : s.toList.isEmpty = false := by simpa using he
    have hE : digL s.data.toList = (s.data.toList).all dig1 := by
      rw [ByteArray.toList_eq] at he'
      simp [digL, he']
    rw [hE]
    clear hE he
    obtain ⟨B, HBB⟩ : ∃ B, Hid (B = (s.data.toList).all dig1) := ⟨_, rfl⟩
    rw [← HBB.out]
    go_enter Try.func10, Try.ntmps10
    go_wp2
    go_loop [10] (fun i => ∃ k : Nat, k ≤ s.size ∧ i = .int .i64 k ∧ Hid ((s.data.toList.take k).all dig1 = true)) (fun i => s.size - (intOf i).toNat)
    case atStart => exact ⟨0, Nat.zero_le _, rfl, (by simp [Hid])⟩
    case round =>
      obtain ⟨k, hk, rfl, HA⟩ := hrel
      by_cases hlt : k < s.size
      · obtain ⟨z, HZ⟩ : ∃ z : Int, Hid (z = (s[k].toNat : Int)) := ⟨(s[k].toNat : Int), Eq.refl _⟩
        have hc : (bytesW w s).cell? ⟨w.heap.size, k, none⟩ = some (.int .u8 z) := by rw [HZ.out]; exact bytesW_cell w s k hlt
        have HN := all_take s k hlt
        rw [HA.out, Bool.true_and] at HN
        have HD := dig1_iff s[k]
        rw [← HZ.out] at HD
        have HN2 : Hid ((s.data.toList.take (k + 1)).all dig1 = dig1 s[k]) := HN
        have HD2 : Hid (dig1 s[k] = true ↔ 48 ≤ z ∧ z ≤ 57) := HD
        have hz0 : 0 ≤ z := by rw [HZ.out]; omega
        clear HN HD
        by_cases hd : 48 ≤ z ∧ z ≤ 57
        · obtain ⟨hd1, hd2⟩ := hd
          go_wp2
          go_round
          case rel => exact ⟨k + 1, by omega, by go_num, HN2.out.trans (HD2.out.2 ⟨hd1, hd2⟩)⟩
          case measure => simp [intOf]; omega
        · have hbad : (s.data.toList).all dig1 = false := by
            have h1 : dig1 s[k] = false := by
              cases h : dig1 s[k] with
              | false => rfl
              | true => exact absurd (HD2.out.1 h) hd
            rw [← List.take_append_drop (k + 1) s.data.toList, List.all_append, HN2.out, h1]; rfl
          have HB : Hid ((s.data.toList).all dig1 = false) := hbad
          clear hbad
          rcases (show z < 48 ∨ 57 < z by omega) with h | h
          all_goals
            clear hd
            go_wp2
            go_ret
            exact ⟨ret_bool (HBB.out.trans HB.out).symm, bytesW_below w s⟩
      · have hfull : s.data.toList.take k = s.data.toList := List.take_of_length_le (by simp; show s.size ≤ k; omega)
        have HF : Hid ((s.data.toList).all dig1 = true) := by rw [← hfull]; exact HA.out
        clear hfull
        go_wp2
        go_ret
        exact ⟨ret_bool (HBB.out.trans HF.out).symm, bytesW_below w s⟩

set_option maxHeartbeats 400000 in
theorem zzdig_any (s : ByteArray) (w : World) (hs : s.size ≤ 4611686018427387904) :
    Calls Try.prog 7 #[.string s] w fun e w' => e = .returned (.bool (digL s.data.toList)) ∧ Below w.heap.size w w' := by
  have HC : Hid (Calls Try.prog 10 #[.string s] w fun e w' => e = .returned (.bool (digL s.data.toList)) ∧ Below w.heap.size w w') := isdigits_any s w hs
  obtain ⟨b, HB⟩ : ∃ b, Hid (b = digL s.data.toList) := ⟨_, rfl⟩
  rw [← HB.out] at HC ⊢
  go_enter Try.func7, Try.ntmps7
  go_wp2_with fail
  refine HC.out.mono ?_
  rintro e w1 ⟨rfl, hb⟩
  go_wp2_with fail
  go_ret
  exact ⟨rfl, hb⟩
end Go.Proofs.Qxb6001608a

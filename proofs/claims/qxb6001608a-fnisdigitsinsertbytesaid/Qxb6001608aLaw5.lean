/- The walk of FnIsDigitsInsertByte. -/
import Derived.Test.Qxb6001608aRender
import Derived.Laws.BytesArg
import Derived.Laws.Concat
namespace Go.Proofs.Qxb6001608a
open Go.RowKit
set_option linter.unusedVariables false

set_option maxHeartbeats 400000 in
theorem bound9 (s : ByteArray) (i c : Int) (w : World) (h0 : s.size ≤ 9223372036854775807) :
    Calls Try.prog 9 #[.string s, .int .i64 i, .int .u8 c] w fun e w' => (∃ b : Bool, e = .returned (.bool b) ∧ (b = true → s.size ≤ 1048576)) ∧ w' = w := by
  go_enter Try.func9, Try.ntmps9
  go_wp2
  all_goals go_ret
  all_goals exact ⟨⟨_, rfl, by simp; try omega⟩, rfl⟩

theorem ins_dig (s : ByteArray) (k : Nat) (hk : k ≤ s.size) (c : Int) : digL ((s.extract 0 k ++ strOfNums [c]) ++ s.extract k s.size).data.toList = (dig1 (UInt8.ofNat c.toNat) && s.data.toList.all dig1) := by
  have e1 : (s.extract 0 k).data.toList = s.data.toList.take k := by
    rw [ByteArray.data_extract]; simp
  have e2 : (s.extract k s.size).data.toList = s.data.toList.drop k := by
    rw [ByteArray.data_extract]
    have h : s.size = s.data.toList.length := by simp
    simp
    exact List.take_of_length_le (by rw [List.length_drop, h]; exact Nat.le_refl _)
  have e : ((s.extract 0 k ++ strOfNums [c]) ++ s.extract k s.size).data.toList = s.data.toList.take k ++ (UInt8.ofNat c.toNat :: s.data.toList.drop k) := by
    rw [ByteArray.data_append, ByteArray.data_append, Array.toList_append, Array.toList_append, e1, e2, strOfNums_data]
    simp
  rw [e]
  unfold digL
  have h1 : (s.data.toList.take k ++ (UInt8.ofNat c.toNat :: s.data.toList.drop k)).isEmpty = false := by simp
  rw [h1, List.all_append, List.all_cons]
  have h2 : s.data.toList.all dig1 = ((s.data.toList.take k).all dig1 && (s.data.toList.drop k).all dig1) := by
    rw [← List.all_append, List.take_append_drop]
  rw [h2]
  cases dig1 (UInt8.ofNat c.toNat) <;> simp

set_option maxHeartbeats 800000 in
theorem walk5 (s : ByteArray) (i c : Int) (hs : s.size ≤ 9223372036854775807) (i0 : -9223372036854775808 ≤ i) (i1 : i ≤ 9223372036854775807) (c0 : 0 ≤ c) (c1 : c ≤ 255) (w : World) :
    Calls Try.prog 5 #[.string s, .int .i64 i, .int .u8 c] w fun e w' => e = .returned (.bool true) ∧ Below w.heap.size w w' := by
  go_enter Try.func5, Try.ntmps5
  go_wp2_with fail
  refine (bound9 _ _ _ _ hs).mono ?_
  rintro e w' ⟨⟨b, rfl, hb⟩, rfl⟩
  cases b with
  | false =>
    go_wp2_with fail
    go_ret
    exact ⟨rfl, Below.refl _ _⟩
  | true =>
    have hle : s.size ≤ 1048576 := hb rfl
    clear hb
    by_cases h1 : i < 0
    · go_wp2_with fail
      go_ret
      exact ⟨rfl, Below.refl _ _⟩
    by_cases h2 : (s.size : Int) < i
    · go_wp2_with fail
      go_ret
      exact ⟨rfl, Below.refl _ _⟩
    obtain ⟨k, rfl⟩ : ∃ k : Nat, i = k := ⟨i.toNat, by omega⟩
    have hk : k ≤ s.size := by omega
    obtain ⟨sc, HSC⟩ : ∃ sc, Hid (sc = strOfNums [c]) := ⟨_, Eq.refl _⟩
    have hcv : ∀ W : World, W.cell? ⟨w'.heap.size, 0, none⟩ = some (.int .u8 c) → (convert 25 9 (.slice (some ⟨w'.heap.size, 0, none⟩) 1 1)).run Try.prog W = .ok (.string sc) W := by
      intro W hW
      rw [HSC.out]
      refine run_convert_bytes_arg (P := Try.prog) W 25 5 Try.underlying25 Try.underlying5 w'.heap.size 0 1 1 [c] rfl ?_ 9 Try.underlying9
      intro j hj
      obtain rfl : j = 0 := by omega
      exact hW
    have hscs : sc.size = 1 := by rw [HSC.out, strOfNums_size]; rfl
    obtain ⟨t1, HT1⟩ : ∃ t1, Hid (t1 = s.extract 0 k ++ sc) := ⟨_, Eq.refl _⟩
    have hx0 : (s.extract 0 k).size = k := by simp [ByteArray.size_extract]; omega
    have hx1 : (s.extract k s.size).size = s.size - k := by simp [ByteArray.size_extract]
    have ht1s : t1.size = k + 1 := by rw [HT1.out, ByteArray.size_append, hx0, hscs]
    obtain ⟨t2, HT2⟩ : ∃ t2, Hid (t2 = t1 ++ s.extract k s.size) := ⟨_, Eq.refl _⟩
    have had1 : ∀ W, (Op.stringOp .add (s.extract 0 k) sc).run Try.prog W = .ok (.string t1) W := by
      intro W; rw [HT1.out]; exact run_string_add_sum W _ _ (by rw [hx0, hscs]; omega)
    have had2 : ∀ W, (Op.stringOp .add t1 (s.extract k s.size)).run Try.prog W = .ok (.string t2) W := by
      intro W; rw [HT2.out]; exact run_string_add_sum W _ _ (by rw [hx1, ht1s]; omega)
    have ht2s : t2.size = s.size + 1 := by rw [HT2.out, ByteArray.size_append, hx1, ht1s]; omega
    have H2S : Hid (t2.size = s.size + 1) := ht2s
    clear hscs hx0 hx1 ht1s ht2s
    go_wp2_with fail
    go_region
    all_goals
      obtain ⟨B, HBB⟩ : ∃ B, Hid (B = digL t2.data.toList) := ⟨_, Eq.refl _⟩
      have HC : Hid (∀ W, Calls Try.prog 7 #[.string t2] W fun e w' => e = .returned (.bool B) ∧ Below W.heap.size W w') := by
        intro W; rw [HBB.out]; exact zzdig_any t2 W (by rw [H2S.out]; omega)
      have HDD : Hid (B = (dig1 (UInt8.ofNat c.toNat) && s.data.toList.all dig1)) := by
        show B = _
        rw [HBB.out, HT2.out, HT1.out, HSC.out]
        exact ins_dig s k hk c
      have HD1 := dig1_iff (UInt8.ofNat c.toNat)
      rw [show ((UInt8.ofNat c.toNat).toNat : Int) = c by simp; omega] at HD1
      have HD1' : Hid (dig1 (UInt8.ofNat c.toNat) = true ↔ 48 ≤ c ∧ c ≤ 57) := HD1
      have HBW : Hid (Below w'.heap.size w' (w'.alloc (.cells #[.int .u8 c] 5)).drew) := ((Below.refl _ _).alloc (Nat.le_refl _) _).drew
      clear HD1 hcv had1 had2
      go_wp2_with fail
      refine (HC.out _).mono ?_
      rintro e w2 ⟨rfl, hb2⟩
      have HB2 : Hid (Below w'.heap.size w' w2) := HBW.out.trans (hb2.mono HBW.out.size)
      clear hb2 HC HBW
      by_cases hd : 48 ≤ c ∧ c ≤ 57
      · have hB : B = s.data.toList.all dig1 := by rw [HDD.out, HD1'.out.2 hd, Bool.true_and]
        obtain ⟨hd1, hd2⟩ := hd
        by_cases he : s.toList.isEmpty = true
        · have hBt : B = true := by
            rw [hB]
            rw [ByteArray.toList_eq] at he
            rw [List.isEmpty_iff.1 he]; rfl
          subst hBt
          clear hB
          go_wp2_with fail
          go_ret
          exact ⟨rfl, HB2.out⟩
        · have he' : s.toList.isEmpty = false := by simpa using he
          have hBs : B = digL s.data.toList := by
            rw [hB]
            rw [ByteArray.toList_eq] at he'
            simp [digL, he']
          have HC2 : Hid (∀ W, Calls Try.prog 7 #[.string s] W fun e w' => e = .returned (.bool B) ∧ Below W.heap.size W w') := by
            intro W; rw [hBs]; exact zzdig_any s W (by omega)
          clear hB hBs he
          go_wp2_with fail
          refine (HC2.out _).mono ?_
          rintro e w3 ⟨rfl, hb3⟩
          go_wp2_with fail
          go_ret
          exact ⟨by simp, HB2.out.trans (hb3.mono HB2.out.size)⟩
      · have hB : B = false := by
          rw [HDD.out]
          have h1 : dig1 (UInt8.ofNat c.toNat) = false := by
            cases h : dig1 (UInt8.ofNat c.toNat) with
            | false => rfl
            | true => exact absurd (HD1'.out.1 h) hd
          rw [h1, Bool.false_and]
        subst hB
        rcases (show c < 48 ∨ 57 < c by omega) with h | h
        all_goals
          clear hd
          go_wp2_with fail
          go_ret
          exact ⟨rfl, HB2.out⟩
end Go.Proofs.Qxb6001608a

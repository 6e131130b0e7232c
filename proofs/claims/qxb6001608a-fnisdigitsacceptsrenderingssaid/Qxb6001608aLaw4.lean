/- The walk of FnIsDigitsAcceptsRenderings. -/
import Derived.Test.Qxb6001608aRender
import Derived.Laws.BytesArg
import Derived.Laws.Concat
namespace Go.Proofs.Qxb6001608a
open Go.RowKit
set_option linter.unusedVariables false

theorem digs_all (L : List Int) (h : Digs L) : (L.map fun n => UInt8.ofNat n.toNat).all dig1 = true := by
  rw [List.all_eq_true]
  intro c hc
  rw [List.mem_map] at hc
  obtain ⟨z, hz, rfl⟩ := hc
  have hb := h z hz
  rw [dig1_iff]
  have e : (UInt8.ofNat z.toNat).toNat = z.toNat := by simp; omega
  omega

theorem dig_yes (s : ByteArray) (h : s.data.toList.all dig1 = true) (h' : s.data.toList ≠ []) : digL s.data.toList = true := by
  unfold digL
  rw [h]
  cases hs : s.data.toList with
  | nil => exact absurd hs h'
  | cons a l => rfl
theorem dig_no (s : ByteArray) (c : UInt8) (h : c ∈ s.data.toList) (hc : dig1 c = false) : digL s.data.toList = false := by
  have : s.data.toList.all dig1 = false := by
    rw [List.all_eq_false]
    exact ⟨c, h, by rw [hc]; simp⟩
  unfold digL
  rw [this, Bool.and_false]

set_option maxHeartbeats 800000 in
theorem walk4 (n zeros : Int) (n0 : 0 ≤ n) (n1 : n ≤ 18446744073709551615) (z0 : -9223372036854775808 ≤ zeros) (z1 : zeros ≤ 9223372036854775807) (w : World) :
    Calls Try.prog 4 #[.int .u64 n, .int .i64 zeros] w fun e w' => e = .returned (.bool true) ∧ Below w.heap.size w w' := by
  obtain ⟨i0, hi, hz0, hz1, hz2⟩ := info_parts Try.info5
  by_cases h1 : zeros < 0
  · go_enter Try.func4, Try.ntmps4
    go_wp2_with fail
    go_ret
    exact ⟨rfl, Below.refl _ _⟩
  by_cases h2 : 65536 < zeros
  · go_enter Try.func4, Try.ntmps4
    go_wp2_with fail
    go_ret
    exact ⟨rfl, Below.refl _ _⟩
  obtain ⟨q, rfl⟩ : ∃ q : Nat, zeros = q := ⟨zeros.toNat, by omega⟩
  have hq : q ≤ 65536 := by omega
  go_enter Try.func4, Try.ntmps4
  go_wp2_with (at_make; refine wpList_make_own _ rfl _ _ 25 rfl w.heap.size 5 i0 (.int .u8 0) 1 Try.underlying25 hi hz0 hz1 _ _ _ (q + 20) rfl rfl ?c0 ?c1 ?c2 ?c3 ?_)
  case c1 => first | omega | (rw [hz2]; omega)
  case c2 => unfold maxLen; omega
  intro w1 hown hgrow
  have HO1 : Hid (w1.ownsRow w.heap.size 5 1 (.slice (some ⟨w.heap.size, 0, none⟩) 0 (q + 20)) 0 []) := hown
  have HB1 : Hid (Below w.heap.size w w1) := (Below.refl _ _).grown hgrow (Nat.le_refl _) (fun k hk => by cases hk)
  clear hown hgrow
  go_wp2_with fail
  go_loopw [5, 6] (fun v i wr => ∃ (j : Nat) (CS : List Value), j ≤ q ∧ i = .int .i64 j ∧ v = .slice (some ⟨w.heap.size, 0, none⟩) j (q + 20) ∧ Hid (CS = (List.replicate j (48 : Int)).map (Value.int .u8)) ∧ Hid (wr.ownsRow w.heap.size 5 1 (.slice (some ⟨w.heap.size, 0, none⟩) j (q + 20)) j CS) ∧ Hid (Below w.heap.size w wr))
    (fun _ i _ => q - (intOf i).toNat)
  case atStart => exact ⟨0, _, Nat.zero_le _, rfl, rfl, rfl, HO1, HB1⟩
  case round =>
    clear HO1 HB1
    obtain ⟨j, CS, hj, rfl, rfl, HCS, HO, HB⟩ := hrel
    by_cases hjl : j < q
    · go_wp2_with (at_builtin; refine wpList_append_fits _ rfl _ _ 25 rfl w.heap.size 5 i0 1 Try.underlying25 hi hz1 w.heap.size j (q + 20) CS rfl (HO.out.alloc _) ⟨wr.heap.size, 0, none⟩ 1 1 [.int .u8 48] rfl rfl (cell_one_new _ _ _) ?d1 ?d2 ?_)
      case d1 => exact ints_oneCell .u8 [48]
      case d2 => omega
      intro w2 hown2 hgr2
      have HO2 : Hid (w2.ownsRow w.heap.size 5 1 (.slice (some ⟨w.heap.size, 0, none⟩) (j + 1) (q + 20)) (j + 1) ((List.replicate (j + 1) (48 : Int)).map (Value.int .u8))) := by
        rw [List.replicate_succ', List.map_append, ← HCS.out]; exact hown2
      have HB2 : Hid (Below w.heap.size w w2) := (HB.out.alloc HB.out.size _).grown hgr2 (by simp; have := HB.out.size; omega) (fun q hq => by simp at hq; omega)
      clear hown2 hgr2
      go_wp2_with fail
      go_roundw
      case rel => exact ⟨j + 1, _, by omega, by go_num, by go_num, rfl, HO2, HB2⟩
      case measure => simp [intOf]; omega
    · obtain rfl : q = j := by omega
      go_wp2_with fail
      refine (render_any n n0 n1 _).mono ?_
      rintro e w2 ⟨L, g, cap, rfl, hg, hl1, hl2, hL, hown2, hb2⟩
      have hwr := HB.out.size
      have HO2 : Hid (w2.ownsRow w.heap.size 5 1 (.slice (some ⟨w.heap.size, 0, none⟩) q (q + 20)) q CS) := HO.out.kept (row := none) ⟨hb2.os, hb2.tape, hb2.output, hb2.size, fun k hk _ => hb2.block k hk⟩ (Or.inr (by simp [Value.ownBlock]))
      have HB2 : Hid (Below w.heap.size w w2) := HB.out.trans (hb2.mono hwr)
      obtain ⟨ll, HLL⟩ : ∃ ll, Hid (ll = L.length) := ⟨_, Eq.refl _⟩
      rw [← HLL.out] at hl1 hl2 hown2 ⊢
      obtain ⟨LV, HLV⟩ : ∃ LV, Hid (LV = L.map (Value.int .u8)) := ⟨_, Eq.refl _⟩
      rw [← HLV.out] at hown2
      have HOL : Hid (w2.ownsRow wr.heap.size 5 1 (.slice (some ⟨g, 0, none⟩) ll cap) ll LV) := hown2
      have HDL : Hid (Digs L) := hL
      clear hown2 hb2 hL HO HB
      go_wp2_with (at_builtin; refine wpList_append_fits _ rfl _ _ 25 rfl w.heap.size 5 i0 1 Try.underlying25 hi hz1 w.heap.size q (q + 20) CS rfl HO2.out ⟨g, 0, none⟩ ll cap LV rfl ?d0 ?d1 ?d2 ?d3 ?_)
      case d0 => rw [HLV.out, HLL.out]; simp
      case d1 => exact HOL.out.cells rfl
      case d2 => rw [HLV.out]; exact ints_oneCell .u8 L
      case d3 => omega
      intro w3 hown3 hgr3
      have HB3 : Hid (Below w.heap.size w w3) := HB2.out.grown hgr3 HB2.out.size (fun q hq => by simp at hq; omega)
      obtain ⟨X, HX⟩ : ∃ X, Hid (X = List.replicate q (48 : Int) ++ L) := ⟨_, Eq.refl _⟩
      have hXl : X.length = q + ll := by rw [HX.out, HLL.out]; simp
      have hown3' : w3.ownsRow w.heap.size 5 1 (.slice (some ⟨w.heap.size, 0, none⟩) (q + ll) (q + 20)) (q + ll) (X.map (Value.int .u8)) := by
        rw [HX.out, List.map_append, ← HCS.out, ← HLV.out]; exact hown3
      obtain ⟨s, HSX⟩ : ∃ s, Hid (s = strOfNums X) := ⟨_, Eq.refl _⟩
      have hcv : (convert 25 9 (.slice (some ⟨w.heap.size, 0, none⟩) (q + ll) (q + 20))).run Try.prog w3 = .ok (.string s) w3 := by
        rw [HSX.out]
        refine run_convert_bytes_arg (P := Try.prog) w3 25 5 Try.underlying25 Try.underlying5 w.heap.size 0 (q + ll) (q + 20) X hXl ?_ 9 Try.underlying9
        intro i hi'
        rw [Nat.zero_add, hown3'.cellAt i (by omega)]
        simp [show i < X.length by omega]
      have HXD : Hid (Digs X) := by
        intro z hz
        rw [HX.out, List.mem_append] at hz
        rcases hz with hz | hz
        · have := List.eq_of_mem_replicate hz; omega
        · exact HDL.out z hz
      have hss : s.size = q + ll := by rw [HSX.out, strOfNums_size, hXl]
      have HSD : Hid (s.data.toList.all dig1 = true ∧ s.data.toList ≠ []) := by
        rw [HSX.out, strOfNums_data]
        refine ⟨digs_all X HXD.out, ?_⟩
        intro h
        have : X.length = 0 := by simpa using congrArg List.length h
        omega
      have HC1 : Hid (∀ W, Calls Try.prog 7 #[.string s] W fun e w' => e = .returned (.bool true) ∧ Below W.heap.size W w') := by
        intro W
        have := zzdig_any s W (by omega)
        rw [dig_yes s HSD.out.1 HSD.out.2] at this
        exact this
      obtain ⟨sm, HSM⟩ : ∃ sm, Hid (sm = (⟨#[45]⟩ : ByteArray) ++ s) := ⟨_, Eq.refl _⟩
      obtain ⟨sp, HSP⟩ : ∃ sp, Hid (sp = (⟨#[43]⟩ : ByteArray) ++ s) := ⟨_, Eq.refl _⟩
      obtain ⟨sb, HSB⟩ : ∃ sb, Hid (sb = s ++ (⟨#[32]⟩ : ByteArray)) := ⟨_, Eq.refl _⟩
      have hm1 : ∀ W, (Op.stringOp .add (⟨#[45]⟩ : ByteArray) s).run Try.prog W = .ok (.string sm) W := by
        intro W; rw [HSM.out]; exact run_string_add_sum W _ _ (by show 1 + s.size ≤ _; omega)
      have hp1 : ∀ W, (Op.stringOp .add (⟨#[43]⟩ : ByteArray) s).run Try.prog W = .ok (.string sp) W := by
        intro W; rw [HSP.out]; exact run_string_add_sum W _ _ (by show 1 + s.size ≤ _; omega)
      have hb1 : ∀ W, (Op.stringOp .add s (⟨#[32]⟩ : ByteArray)).run Try.prog W = .ok (.string sb) W := by
        intro W; rw [HSB.out]; exact run_string_add_sum W _ _ (by show s.size + 1 ≤ _; omega)
      have HC2 : Hid (∀ W, Calls Try.prog 7 #[.string sm] W fun e w' => e = .returned (.bool false) ∧ Below W.heap.size W w') := by
        intro W
        have := zzdig_any sm W (by rw [HSM.out, ByteArray.size_append]; show 1 + s.size ≤ _; omega)
        rw [dig_no sm 45 (by rw [HSM.out, ByteArray.data_append]; simp) (by decide)] at this
        exact this
      have HC3 : Hid (∀ W, Calls Try.prog 7 #[.string sp] W fun e w' => e = .returned (.bool false) ∧ Below W.heap.size W w') := by
        intro W
        have := zzdig_any sp W (by rw [HSP.out, ByteArray.size_append]; show 1 + s.size ≤ _; omega)
        rw [dig_no sp 43 (by rw [HSP.out, ByteArray.data_append]; simp) (by decide)] at this
        exact this
      have HC4 : Hid (∀ W, Calls Try.prog 7 #[.string sb] W fun e w' => e = .returned (.bool false) ∧ Below W.heap.size W w') := by
        intro W
        have := zzdig_any sb W (by rw [HSB.out, ByteArray.size_append]; show s.size + 1 ≤ _; omega)
        rw [dig_no sb 32 (by rw [HSB.out, ByteArray.data_append]; simp) (by decide)] at this
        exact this
      have HC5 : Hid (∀ W, Calls Try.prog 7 #[.string ⟨#[]⟩] W fun e w' => e = .returned (.bool false) ∧ Below W.heap.size W w') := by
        intro W
        have := zzdig_any ⟨#[]⟩ W (by show 0 ≤ _; omega)
        exact this
      clear hown3 hgr3 hown3' HO2 HOL hXl hss
      go_wp2_with fail
      refine (HC1.out _).mono ?_
      rintro e w4 ⟨rfl, hb4⟩
      have HB4 : Hid (Below w.heap.size w w4) := HB3.out.trans (hb4.mono HB3.out.size)
      clear hb4
      go_wp2_with fail
      refine (HC2.out _).mono ?_
      rintro e w5 ⟨rfl, hb5⟩
      have HB5 : Hid (Below w.heap.size w w5) := HB4.out.trans (hb5.mono HB4.out.size)
      clear hb5
      go_wp2_with fail
      refine (HC3.out _).mono ?_
      rintro e w6 ⟨rfl, hb6⟩
      have HB6 : Hid (Below w.heap.size w w6) := HB5.out.trans (hb6.mono HB5.out.size)
      clear hb6
      go_wp2_with fail
      refine (HC4.out _).mono ?_
      rintro e w7 ⟨rfl, hb7⟩
      have HB7 : Hid (Below w.heap.size w w7) := HB6.out.trans (hb7.mono HB6.out.size)
      clear hb7
      go_wp2_with fail
      refine (HC5.out _).mono ?_
      rintro e w8 ⟨rfl, hb8⟩
      have HB8 : Hid (Below w.heap.size w w8) := HB7.out.trans (hb8.mono HB7.out.size)
      clear hb8
      go_wp2_with fail
      go_ret
      exact ⟨rfl, HB8.out⟩
end Go.Proofs.Qxb6001608a

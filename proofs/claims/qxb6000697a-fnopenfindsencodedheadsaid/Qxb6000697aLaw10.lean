/- The walk of FnOpenFindsEncodedHead. -/
import Derived.Test.Qxb6000697aShims
import Derived.Test.Qxb6000697aLaw6
import Derived.Test.Qxb6000697aTagsF
namespace Go.Proofs.Qxb6000697a
open Go.RowKit
set_option linter.unusedVariables false

/-- A slice of uint64 as it lies in memory. -/
def Vw64 (w : World) (ao : Option Addr) (zs : List Int) : Prop := zs.length = 0 ∨ ∃ b off, ao = some ⟨b, off, none⟩ ∧ ∀ j, j < zs.length → w.cell? ⟨b, off + j, none⟩ = some (.int .u64 (zs.getD j 0))

theorem Vw64.below {w w' : World} {ao : Option Addr} {zs : List Int} (h : Vw64 w ao zs) (hb : Below w.heap.size w w') : Vw64 w' ao zs := by
  rcases h with h | ⟨b, off, e, h⟩
  · exact Or.inl h
  · exact Or.inr ⟨b, off, e, fun j hj => (hb.cell (World.block_lt_of_cell? w _ (h j hj))).trans (h j hj)⟩

theorem vw64_of {w : World} {a : Option Addr} {len cap : Nat} {zs : List Int}
    (h : (a = none ∧ len = 0 ∧ cap = 0 ∧ zs = []) ∨ ∃ x, a = some x ∧ len ≤ cap ∧ cap ≤ maxLen ∧ zs.length = cap ∧ (∀ i, i < zs.length → w.cell? (x.add i) = some (.int .u64 (zs.getD i 0))) ∧ ∀ n ∈ zs, (Lit.int .u64 n).wf = true) :
    ∃ A : List Int, A.length = len ∧ len ≤ 9223372036854775807 ∧ Vw64 w a A ∧ ∀ z ∈ A, 0 ≤ z ∧ z ≤ 18446744073709551615 := by
  rcases h with ⟨rfl, rfl, rfl, rfl⟩ | ⟨x, rfl, hl, hm, hz, hc, hw⟩
  · exact ⟨[], rfl, by omega, Or.inl rfl, by simp⟩
  · unfold maxLen at hm
    refine ⟨zs.take len, by simp; omega, by omega, ?_, fun z hz' => bounds_u64 (hw z (List.mem_of_mem_take hz'))⟩
    by_cases h0 : len = 0
    · exact Or.inl (by simp [h0])
    · obtain ⟨b, off, rfl, hcc⟩ := ints_at hc (by omega)
      refine Or.inr ⟨b, off, rfl, fun j hj => ?_⟩
      simp at hj
      rw [hcc j (by omega)]
      simp [hj, show j < zs.length by omega]

set_option maxHeartbeats 400000 in
theorem bound24 (a0 a1 a2 a6 : Option Addr) (l0 c0 l1 c1 l2 c2 l6 c6 : Nat) (a3 a4 a5 : Int) (w : World) (h0 : l0 ≤ 9223372036854775807) (h1 : l1 ≤ 9223372036854775807) (h2 : l2 ≤ 9223372036854775807) (h6 : l6 ≤ 9223372036854775807) :
    Calls Try.prog 24 #[.slice a0 l0 c0, .slice a1 l1 c1, .slice a2 l2 c2, .int .u8 a3, .int .u64 a4, .int .u8 a5, .slice a6 l6 c6] w fun e w' => (∃ b : Bool, e = .returned (.bool b) ∧ (b = true → l0 + l1 + l2 + l6 ≤ 1048576)) ∧ w' = w := by
  go_enter Try.func24, Try.ntmps24
  go_wp2
  all_goals go_ret
  all_goals exact ⟨⟨_, rfl, by simp; try omega⟩, rfl⟩

/-- Tag k and its width. -/
def tagL (T W : List Int) (k : Nat) : List (Int × Int) := (List.range k).map fun j => (T.getD j 0, W.getD j 0 % 5)
theorem tagL_succ (T W : List Int) (k : Nat) : tagL T W (k + 1) = tagL T W k ++ [(T.getD k 0, W.getD k 0 % 5)] := by simp [tagL, List.range_succ]
theorem tagL_len (T W : List Int) (k : Nat) : (tagL T W k).length = k := by simp [tagL]
theorem tagL_ok (T W : List Int) (k : Nat) (hT : ∀ j, 0 ≤ T.getD j 0 ∧ T.getD j 0 ≤ 18446744073709551615) (hW : Byt W) : ∀ x ∈ tagL T W k, TagOk x := by
  intro x hx
  simp only [tagL, List.mem_map] at hx
  obtain ⟨j, _, rfl⟩ := hx
  have h1 := hT j
  have h2 := hW j
  exact ⟨h1.1, h1.2, by simp only; omega, by simp only; omega⟩
theorem u64_of {zs : List Int} (h : ∀ z ∈ zs, 0 ≤ z ∧ z ≤ 18446744073709551615) : ∀ j, 0 ≤ zs.getD j 0 ∧ zs.getD j 0 ≤ 18446744073709551615 := by
  intro j
  by_cases hj : j < zs.length
  · have := h _ (List.getElem_mem hj)
    simpa [List.getD, hj] using this
  · simp [List.getD, hj]
theorem gb_of_below {w w' : World} (h : Below w.heap.size w w') : w.grownBy w' none := ⟨h.os, h.tape, h.output, h.size, fun k hk _ => h.block k hk⟩

theorem open_match (w : World) (b : Nat) (ao : Option Addr) (zs : List Int) (c off : Nat) (m a : Int) (i : Bool) (o : Nat) (hZ : Byt zs) (hn : zs.length ≤ 1099511627776) (hnc : zs.length ≤ c) (h : Rd w b ao zs.length c off true) (hs : Src w b ao zs) (hoff : off ≤ zs.length) (hT : tagsF zs (zs.length + 1) off = some (m, a, i, o)) :
    Calls Try.prog 29 #[.pointer (some ⟨b, 0, none⟩), .int .u8 m] w fun e w' => e = .returned (.tuple #[.agg #[.int .u8 m, .int .u64 a, .bool i], .bool true]) ∧ Rd w' b ao zs.length c o true ∧ w.grownBy w' (some b) := by
  refine (open_any w b ao zs c off m hZ hn hnc h hs hoff).mono ?_
  rintro e w' ⟨hg, hP⟩
  rw [hT] at hP
  rcases hP with ⟨_, he, hR⟩ | ⟨hm, _, _⟩
  · exact ⟨he, hR, hg⟩
  · exact absurd rfl hm

set_option maxHeartbeats 400000 in
theorem zzopen_match (w : World) (ao : Option Addr) (zs : List Int) (c off : Nat) (m a : Int) (i : Bool) (o : Nat) (hZ : Byt zs) (hn : zs.length ≤ 1099511627776) (hnc : zs.length ≤ c) (hs : zs.length = 0 ∨ ∃ g, ao = some ⟨g, 0, none⟩ ∧ Bts w g zs) (hoff : off ≤ zs.length) (hT : tagsF zs (zs.length + 1) off = some (m, a, i, o)) :
    Calls Try.prog 22 #[.slice ao zs.length c, .int .i64 off, .bool true, .int .u8 m] w fun e w' => e = .returned (.tuple #[.int .u8 m, .int .u64 a, .bool i, .bool true, .int .i64 o, .bool true]) ∧ Below w.heap.size w w' := by
  have HC : Hid (Calls Try.prog 29 #[.pointer (some ⟨w.heap.size, 0, none⟩), .int .u8 m] (w.alloc (.cells #[.slice ao zs.length c, .int .i64 off, .bool true] 44)) fun e w' => e = .returned (.tuple #[.agg #[.int .u8 m, .int .u64 a, .bool i], .bool true]) ∧ Rd w' w.heap.size ao zs.length c o true ∧ (w.alloc (.cells #[.slice ao zs.length c, .int .i64 off, .bool true] 44)).grownBy w' (some w.heap.size)) :=
    open_match _ w.heap.size ao zs c off m a i o hZ hn hnc (Rd.born w ao zs.length c off true) (src_born _ hs) hoff hT
  clear hs hZ hoff hT
  go_enter Try.func22, Try.ntmps22
  go_wp2_with fail
  refine HC.out.mono ?_
  rintro e w1 ⟨rfl, hR, hg⟩
  obtain ⟨c0, c1, c2, f1, f2, hb⟩ := hR.facts
  have hB0 : Below w.heap.size w (w.alloc (.cells #[.slice ao zs.length c, .int .i64 off, .bool true] 44)) := (Below.refl _ _).alloc (Nat.le_refl _) _
  have hB1 : Below w.heap.size (w.alloc (.cells #[.slice ao zs.length c, .int .i64 off, .bool true] 44)) w1 := gb_below hg (Nat.le_refl _) (by simp)
  have HB : Hid (Below w.heap.size w w1) := hB0.trans hB1
  clear HC hR hg hB0 hB1 c0
  go_wp2_with fail
  go_quiet (fail)
  go_wp2_with fail
  exact bodyPost_ret (v := .tuple #[.int .u8 m, .int .u64 a, .bool i, .bool true, .int .i64 o, .bool true]) (by simp [results, Try.results22, go_sem]) rfl ⟨rfl, below_drewN (HB.out.alloc (by omega) _) _⟩

set_option maxHeartbeats 1600000 in
theorem walk10 (a0 : Option Addr) (A : List Int) (cap0 : Nat) (a1 : Option Addr) (T : List Int) (cap1 : Nat) (a2 : Option Addr) (W : List Int) (cap2 : Nat) (a3 a4 a5 : Int) (a6 : Option Addr) (S : List Int) (cap6 : Nat) (w : World)
    (hA : Vw w a0 A) (hA1 : A.length ≤ 9223372036854775807) (hAz : ∀ z ∈ A, 0 ≤ z ∧ z ≤ 255)
    (hT : Vw64 w a1 T) (hT1 : T.length ≤ 9223372036854775807) (hTz : ∀ z ∈ T, 0 ≤ z ∧ z ≤ 18446744073709551615)
    (hW : Vw w a2 W) (hW1 : W.length ≤ 9223372036854775807) (hWz : ∀ z ∈ W, 0 ≤ z ∧ z ≤ 255)
    (hS : Vw w a6 S) (hS1 : S.length ≤ 9223372036854775807) (hSz : ∀ z ∈ S, 0 ≤ z ∧ z ≤ 255)
    (x0 : 0 ≤ a3) (x1 : a3 ≤ 255) (y0 : 0 ≤ a4) (y1 : a4 ≤ 18446744073709551615) (u0 : 0 ≤ a5) (u1 : a5 ≤ 255) :
    Calls Try.prog 10 #[.slice a0 A.length cap0, .slice a1 T.length cap1, .slice a2 W.length cap2, .int .u8 a3, .int .u64 a4, .int .u8 a5, .slice a6 S.length cap6] w fun e w' => e = .returned (.bool true) ∧ Below w.heap.size w w' := by
  obtain ⟨i0, hi, hz0, hz1, hz2⟩ := info_parts Try.info5
  obtain ⟨la, hla⟩ : ∃ la, la = A.length := ⟨_, rfl⟩
  obtain ⟨lt, hlt⟩ : ∃ lt, lt = T.length := ⟨_, rfl⟩
  obtain ⟨lw, hlw⟩ : ∃ lw, lw = W.length := ⟨_, rfl⟩
  obtain ⟨ls, hls⟩ : ∃ ls, ls = S.length := ⟨_, rfl⟩
  rw [← hla] at hA1
  rw [← hlt] at hT1
  rw [← hlw] at hW1
  rw [← hls] at hS1
  have HA : Hid (Vw w a0 A ∧ la = A.length ∧ ∀ z ∈ A, 0 ≤ z ∧ z ≤ 255) := ⟨hA, hla, hAz⟩
  have HT : Hid (Vw64 w a1 T ∧ lt = T.length ∧ ∀ z ∈ T, 0 ≤ z ∧ z ≤ 18446744073709551615) := ⟨hT, hlt, hTz⟩
  have HW : Hid (Vw w a2 W ∧ lw = W.length ∧ ∀ z ∈ W, 0 ≤ z ∧ z ≤ 255) := ⟨hW, hlw, hWz⟩
  have HS : Hid (Vw w a6 S ∧ ls = S.length ∧ ∀ z ∈ S, 0 ≤ z ∧ z ≤ 255) := ⟨hS, hls, hSz⟩
  rw [← hla, ← hlt, ← hlw, ← hls]
  clear hA hT hW hS hla hlt hlw hls hAz hTz hWz hSz
  have hmb := maskF_bd a4 (a5 % 5) y0 y1
  obtain ⟨M, HM⟩ : ∃ M, Hid (M = maskF a4 (a5 % 5)) := ⟨_, rfl⟩
  rw [← HM.out] at hmb
  obtain ⟨hM0, hM1⟩ := hmb
  have HC : Hid (∀ W, Calls Try.prog 18 #[.int .u64 a4, .int .u8 (a5 % 5)] W fun e w' => e = .returned (.int .u64 M) ∧ W = w') := by
    intro W; rw [HM.out]
    refine (mask_any a4 (a5 % 5) y0 y1 (by omega) (by omega) W).mono ?_
    rintro e w' ⟨he, hw⟩; exact ⟨he, hw.symm⟩
  go_enter Try.func10, Try.ntmps10
  go_wp2_with fail
  refine (bound24 _ _ _ _ _ _ _ _ _ _ _ _ _ _ _ _ hA1 hT1 hW1 hS1).mono ?_
  rintro e w' ⟨⟨b, rfl, hb⟩, rfl⟩
  cases b with
  | false =>
    go_wp2_with fail
    go_ret
    exact ⟨rfl, Below.refl _ _⟩
  | true =>
    have hle : la + lt + lw + ls ≤ 1048576 := hb rfl
    clear hb
    by_cases hbig : (1048576 : Int) < la + ls + 8 * lt + lw
    · go_wp2_with fail
      go_ret
      exact ⟨rfl, Below.refl _ _⟩
    by_cases hne : ((lw : Int) != lt) = true
    · go_wp2_with fail
      go_ret
      exact ⟨rfl, Below.refl _ _⟩
    have hnf : ((lw : Int) != lt) = false := by simpa using hne
    have HWT : Hid (lw = lt) := by show lw = lt; simp at hne; omega
    clear hne
    by_cases h6 : (a3 % 8 == 6) = true
    · go_wp2_with fail
      go_ret
      exact ⟨rfl, Below.refl _ _⟩
    have h6f : (a3 % 8 == 6) = false := by simpa using h6
    have H6 : Hid (a3 % 8 ≠ 6) := by simp at h6; exact h6
    clear h6
    go_wp2_with fail
    refine (HC.out _).mono ?_
    rintro e w1 ⟨rfl, rfl⟩
    go_wp2_with (at_make; refine wpList_make_own _ rfl _ _ 22 rfl w'.heap.size 5 i0 (.int .u8 0) 1 Try.underlying22 hi hz0 hz1 _ _ _ (9 * lt) rfl rfl ?c0 ?c1 ?c2 ?c3 ?_)
    case c0 => omega
    case c1 => rw [hz2]; omega
    case c2 => unfold maxLen; omega
    case c3 => exact Nat.le_refl _
    intro w1 hown hgrow
    have HB1 : Hid (Below w'.heap.size w' w1) := (Below.refl _ _).grown hgrow (Nat.le_refl _) (fun k hk => by cases hk)
    have HO1 : Hid (w1.ownsRow w'.heap.size 5 1 (.slice (some ⟨w'.heap.size, 0, none⟩) 0 (9 * lt)) 0 []) := hown
    have hsz1 : w'.heap.size < w1.heap.size := (hown.lt _ rfl).2
    clear hown hgrow
    obtain ⟨cp, HCP⟩ : ∃ cp, Hid (cp = 9 * lt) := ⟨_, rfl⟩
    rw [← HCP.out]
    rw [← HCP.out] at HO1
    have hcp : 9 * lt ≤ cp := by rw [HCP.out]; exact Nat.le_refl _
    go_wp2_with fail
    go_loopw [18, 19] (fun v i wr => ∃ (k n : Nat) (L : List Int), k ≤ lt ∧ n ≤ 9 * k ∧ i = .int .i64 k ∧ v = .slice (some ⟨w'.heap.size, 0, none⟩) n cp ∧ Hid (L = tagB (tagL T W k) ∧ n = L.length) ∧ Hid (wr.ownsRow w'.heap.size 5 1 (.slice (some ⟨w'.heap.size, 0, none⟩) n cp) n (L.map (Value.int .u8))) ∧ Hid (Below w'.heap.size w' wr) ∧ w'.heap.size < wr.heap.size)
      (fun _ i _ => lt - (intOf i).toNat)
    case atStart => exact ⟨0, 0, [], Nat.zero_le _, Nat.zero_le _, rfl, rfl, ⟨rfl, rfl⟩, HO1, HB1, hsz1⟩
    case round =>
      clear HO1 HB1 hsz1
      obtain ⟨wo, rfl⟩ : ∃ x, x = wr := ⟨_, rfl⟩
      obtain ⟨k, n, L, hk, hn, rfl, rfl, HL, HO, HB, hsz⟩ := hrel
      by_cases hklt : k < lt
      · obtain ⟨t, HTk⟩ : ∃ t, Hid (t = T.getD k 0) := ⟨_, rfl⟩
        obtain ⟨y, HYk⟩ : ∃ y, Hid (y = W.getD k 0) := ⟨_, rfl⟩
        have ht := u64_of HT.out.2.2 k
        have hy := byt_of HW.out.2.2 k
        rw [← HTk.out] at ht
        rw [← HYk.out] at hy
        obtain ⟨ht0, ht1⟩ := ht
        obtain ⟨hy0, hy1⟩ := hy
        obtain ⟨bt, ot, rfl, hct⟩ : ∃ bt ot, a1 = some ⟨bt, ot, none⟩ ∧ wo.cell? ⟨bt, ot + k, none⟩ = some (.int .u64 t) := by
          rcases HT.out.1.below HB.out with h0 | ⟨bb, oo, e, h⟩
          · have := HT.out.2.1; omega
          · exact ⟨bb, oo, e, by rw [HTk.out]; exact h k (by have := HT.out.2.1; omega)⟩
        obtain ⟨by', oy, rfl, hcy⟩ : ∃ bt ot, a2 = some ⟨bt, ot, none⟩ ∧ wo.cell? ⟨bt, ot + k, none⟩ = some (.int .u8 y) := by
          rcases HW.out.1.below HB.out with h0 | ⟨bb, oo, e, h⟩
          · have := HW.out.2.1; have := HWT.out; omega
          · exact ⟨bb, oo, e, by rw [HYk.out]; exact h k (by have := HW.out.2.1; have := HWT.out; omega)⟩
        have hkw : k < lw := by rw [HWT.out]; exact hklt
        have hmb := maskF_bd t (y % 5) ht0 ht1
        obtain ⟨Q, HQ⟩ : ∃ Q, Hid (Q = maskF t (y % 5)) := ⟨_, rfl⟩
        rw [← HQ.out] at hmb
        obtain ⟨hQ0, hQ1⟩ := hmb
        have HMk : Hid (∀ W, Calls Try.prog 18 #[.int .u64 t, .int .u8 (y % 5)] W fun e w' => e = .returned (.int .u64 Q) ∧ W = w') := by
          intro W; rw [HQ.out]
          refine (mask_any t (y % 5) ht0 ht1 (by omega) (by omega) W).mono ?_
          rintro e w' ⟨he, hw⟩; exact ⟨he, hw.symm⟩
        go_wp2_with fail
        refine (HMk.out _).mono ?_
        rintro e w2 ⟨rfl, rfl⟩
        clear HMk
        go_wp2_with fail
        obtain ⟨E, HE⟩ : ∃ E, Hid (E = encF 6 Q (y % 5)) := ⟨_, rfl⟩
        obtain ⟨le, HLE⟩ : ∃ le, Hid (le = E.length) := ⟨_, rfl⟩
        have hle9 : le ≤ 9 := by rw [HLE.out, HE.out]; exact encF_len _ _ _
        have enc := enc_any 6 Q (y % 5) (by omega) (by omega) (by omega) (by omega) hQ0 hQ1 (by rw [HQ.out]; exact maskF_sm _ _) wo
        rw [← HE.out, ← HLE.out] at enc
        refine enc.mono ?_
        rintro e w2 ⟨rfl, hb2, hown2⟩
        clear enc
        have HBE : Hid (Bts w2 wo.heap.size E) := by
          have := bts_own (L := E) (by rw [← HLE.out]; exact hown2) E.length
          rw [List.take_length] at this
          exact this
        have HO2 : Hid (w2.ownsRow w'.heap.size 5 1 (.slice (some ⟨w'.heap.size, 0, none⟩) n cp) n (L.map (Value.int .u8))) := HO.out.kept (gb_of_below hb2) (Or.inr (by simp [Value.ownBlock]))
        have HB2 : Hid (Below w'.heap.size w' w2) := HB.out.trans (hb2.mono (by omega))
        have hsz2 : w'.heap.size < w2.heap.size := by have := hb2.size; omega
        clear hown2 hb2 hct hcy HO HB
        go_wp2_with fail
        go_loopw [18, 22] (fun v i wi => ∃ (j : Nat) (CS : List Value), j ≤ le ∧ i = .int .i64 j ∧ v = .slice (some ⟨w'.heap.size, 0, none⟩) (n + j) cp ∧ Hid (CS = (L ++ E.take j).map (Value.int .u8)) ∧ Hid (wi.ownsRow w'.heap.size 5 1 (.slice (some ⟨w'.heap.size, 0, none⟩) (n + j) cp) (n + j) CS) ∧ Hid (Bts wi wo.heap.size E) ∧ Hid (Below w'.heap.size w' wi) ∧ w'.heap.size < wi.heap.size)
          (fun _ i _ => le - (intOf i).toNat)
        case atStart => exact ⟨0, _, Nat.zero_le _, rfl, rfl, rfl, (by simpa [Hid] using HO2.out), HBE, HB2, hsz2⟩
        case round =>
          clear HO2 HBE HB2 hsz2
          obtain ⟨j, CS, hj, rfl, rfl, HCS, HOi, HBEi, HBi, hszi⟩ := hrel
          by_cases hjl : j < le
          · obtain ⟨z, HZk⟩ : ∃ z, Hid (z = E.getD j 0) := ⟨_, rfl⟩
            have hcz : wr.cell? ⟨wo.heap.size, j, none⟩ = some (.int .u8 z) := by rw [HZk.out]; exact HBEi.out j (by have := HLE.out; omega)
            go_wp2_with (at_builtin; refine wpList_append_fits _ rfl _ _ 22 rfl w'.heap.size 5 i0 1 Try.underlying22 hi hz1 w'.heap.size (n + j) cp CS rfl (HOi.out.alloc _) ⟨wr.heap.size, 0, none⟩ 1 1 [.int .u8 z] rfl rfl (cell_one_new _ _ _) ?d1 ?d2 ?_)
            case d1 => exact ints_oneCell .u8 [z]
            case d2 => omega
            intro w4 hown4 hgr4
            have HO4 : Hid (w4.ownsRow w'.heap.size 5 1 (.slice (some ⟨w'.heap.size, 0, none⟩) (n + (j + 1)) cp) (n + (j + 1)) ((L ++ E.take (j + 1)).map (Value.int .u8))) := by
              rw [take_snoc E j (by have := HLE.out; omega), ← HZk.out, row_snoc, ← HCS.out]; exact hown4
            have HB4 : Hid (Below w'.heap.size w' w4) := (HBi.out.alloc HBi.out.size _).grown hgr4 (by simp; omega) (fun q hq => by simp at hq; omega)
            have HBE4 : Hid (Bts w4 wo.heap.size E) := (HBEi.out.grown (World.grownBy_alloc _ _ none) (by simp)).grown hgr4 (by simp; omega)
            have hsz4 : w'.heap.size < w4.heap.size := by have := hgr4.size; simp at this; omega
            clear hown4 hgr4
            go_wp2_with fail
            go_roundw
            case rel => exact ⟨j + 1, _, by omega, by go_num, by go_num, rfl, HO4, HBE4, HB4, hsz4⟩
            case measure => simp [intOf]; omega
          · obtain rfl : le = j := by omega
            have hEt : E.take le = E := List.take_of_length_le (by have := HLE.out; omega)
            have HOi2 : Hid (wr.ownsRow w'.heap.size 5 1 (.slice (some ⟨w'.heap.size, 0, none⟩) (n + le) cp) (n + le) ((L ++ E).map (Value.int .u8))) := by
              have := HOi.out
              rw [HCS.out, hEt] at this
              exact this
            clear hEt HOi
            go_wp2_with fail
            go_roundw
            case rel =>
              refine ⟨k + 1, n + le, L ++ E, by omega, by omega, by go_num, rfl, ⟨?_, ?_⟩, HOi2, HBi, hszi⟩
              · rw [tagL_succ, tagB_snoc, ← HL.out.1, HE.out, HQ.out, HTk.out, HYk.out]
              · rw [List.length_append, ← HL.out.2, ← HLE.out]
            case measure => simp [intOf]; omega
      · obtain rfl : lt = k := by omega
        have hLB := tagB_len (tagL T W lt)
        rw [tagL_len] at hLB
        go_wp2_with fail
        obtain ⟨E, HE⟩ : ∃ E, Hid (E = encF (a3 % 8) M (a5 % 5)) := ⟨_, rfl⟩
        obtain ⟨le, HLE⟩ : ∃ le, Hid (le = E.length) := ⟨_, rfl⟩
        have hle9 : le ≤ 9 := by rw [HLE.out, HE.out]; exact encF_len _ _ _
        have enc := enc_any (a3 % 8) M (a5 % 5) (by omega) (by omega) (by omega) (by omega) hM0 hM1 (by rw [HM.out]; exact maskF_sm _ _) wo
        rw [← HE.out, ← HLE.out] at enc
        refine enc.mono ?_
        rintro e w2 ⟨rfl, hb2, hown2⟩
        clear enc
        have hvE : Vw w2 (some ⟨wo.heap.size, 0, none⟩) E := Or.inr ⟨_, 0, rfl, fun j hj => by
          have := bts_own (L := E) (by rw [← HLE.out]; exact hown2) E.length j (by simpa using hj)
          simpa using this⟩
        have hO2 := HO.out.kept (gb_of_below hb2) (Or.inr (by simp [Value.ownBlock]))
        have hvL : Vw w2 (some ⟨w'.heap.size, 0, none⟩) L := Or.inr ⟨_, 0, rfl, fun j hj => by
          have hlen := HL.out.2
          rw [Nat.zero_add, hO2.cellAt j (by omega)]
          simp [hj]⟩
        have hB2 : Below w'.heap.size w' w2 := HB.out.trans (hb2.mono (by omega))
        have HB2 : Hid (Below w'.heap.size w' w2) := hB2
        have jn := join3_any w2 (some ⟨w'.heap.size, 0, none⟩) (some ⟨wo.heap.size, 0, none⟩) none L E [] cp le 0 hvL hvE (Or.inl rfl) (n + le) (by rw [← HL.out.2, ← HLE.out]; rfl) (by omega)
        rw [← HL.out.2, ← HLE.out] at jn
        have HJ : Hid (Calls Try.prog 15 #[.slice (some ⟨w'.heap.size, 0, none⟩) n cp, .slice (some ⟨wo.heap.size, 0, none⟩) le le, .slice none 0 0] w2 fun e w' => e = .returned (.slice (some ⟨w2.heap.size, 0, none⟩) (n + le) (n + le)) ∧ Below w2.heap.size w2 w' ∧ w'.ownsRow w2.heap.size 5 1 (.slice (some ⟨w2.heap.size, 0, none⟩) (n + le) (n + le)) (n + le) ((L ++ (E ++ [])).map (Value.int .u8))) := jn
        clear jn hvE hvL hO2 hown2 hB2 HO HB hb2
        go_wp2_with fail
        refine HJ.out.mono ?_
        rintro e w3 ⟨rfl, hb3, hown3⟩
        clear HJ
        have hB3 : Below w'.heap.size w' w3 := HB2.out.trans (hb3.mono HB2.out.size)
        have hmid : (L ++ E).length = n + le := by rw [List.length_append, ← HL.out.2, ← HLE.out]
        have hvM : Vw w3 (some ⟨w2.heap.size, 0, none⟩) (L ++ E) := Or.inr ⟨_, 0, rfl, fun j hj => by
          rw [List.append_nil] at hown3
          have := bts_own (L := L ++ E) (by rw [hmid]; exact hown3) (L ++ E).length j (by rw [List.take_length]; exact hj)
          rw [List.take_length] at this
          simpa using this⟩
        have jn := join3_any w3 a0 (some ⟨w2.heap.size, 0, none⟩) a6 A (L ++ E) S cap0 (n + le) cap6 (HA.out.1.below hB3) hvM (HS.out.1.below hB3) (la + (n + le) + ls) (by rw [hmid, ← HA.out.2.1, ← HS.out.2.1]) (by omega)
        rw [hmid, ← HA.out.2.1, ← HS.out.2.1] at jn
        have HJ : Hid (Calls Try.prog 15 #[.slice a0 la cap0, .slice (some ⟨w2.heap.size, 0, none⟩) (n + le) (n + le), .slice a6 ls cap6] w3 fun e w' => e = .returned (.slice (some ⟨w3.heap.size, 0, none⟩) (la + (n + le) + ls) (la + (n + le) + ls)) ∧ Below w3.heap.size w3 w' ∧ w'.ownsRow w3.heap.size 5 1 (.slice (some ⟨w3.heap.size, 0, none⟩) (la + (n + le) + ls) (la + (n + le) + ls)) (la + (n + le) + ls) ((A ++ ((L ++ E) ++ S)).map (Value.int .u8))) := jn
        have HB3 : Hid (Below w'.heap.size w' w3) := hB3
        clear jn hvM hown3 hb3 hB3
        go_wp2_with fail
        refine HJ.out.mono ?_
        rintro e w4 ⟨rfl, hb4, hown4⟩
        clear HJ
        have hlen : (A ++ ((L ++ E) ++ S)).length = la + (n + le) + ls := by rw [List.length_append, List.length_append, hmid, ← HA.out.2.1, ← HS.out.2.1]; omega
        have hT : tagsF (A ++ ((L ++ E) ++ S)) ((A ++ ((L ++ E) ++ S)).length + 1) A.length = some (a3 % 8, M, false, A.length + (L ++ E).length) := by
          have h := tagsF_enc (a3 % 8) M (a5 % 5) H6.out (by omega) (by omega) hM0 (by rw [HM.out]; exact maskF_sm _ _) (by rw [HM.out]; exact maskF_fit _ _ y0 y1 (by omega) (by omega)) S (tagL T W lt) A ((A ++ ((L ++ E) ++ S)).length + 1) (tagL_ok T W lt (u64_of HT.out.2.2) (byt_of HW.out.2.2)) (by rw [tagL_len, hlen]; have := HL.out.2; have := HL.out.1; rw [← this] at hLB; omega)
          rw [← HL.out.1, ← HE.out] at h
          have eD : A ++ (L ++ (E ++ S)) = A ++ ((L ++ E) ++ S) := by simp
          rw [eD] at h
          rw [h, List.length_append, Nat.add_assoc]
        have zo := zzopen_match w4 (some ⟨w3.heap.size, 0, none⟩) (A ++ ((L ++ E) ++ S)) (la + (n + le) + ls) A.length (a3 % 8) M false (A.length + (L ++ E).length) (byt_of (by
            intro z hz
            rw [List.mem_append, List.mem_append, List.mem_append] at hz
            rcases hz with hz | (hz | hz) | hz
            · exact HA.out.2.2 z hz
            · rw [HL.out.1] at hz
              exact tagB_mem _ (tagL_ok T W lt (u64_of HT.out.2.2) (byt_of HW.out.2.2)) z hz
            · rw [HE.out] at hz
              exact encF_mem _ _ _ (by omega) (by omega) (by omega) (by omega) hM0 (by rw [HM.out]; exact maskF_sm _ _) z hz
            · exact HS.out.2.2 z hz)) (by rw [hlen]; omega) (by rw [hlen]; exact Nat.le_refl _)
          (Or.inr ⟨_, rfl, by
            have := bts_own (L := A ++ ((L ++ E) ++ S)) (by rw [hlen]; exact hown4) (A ++ ((L ++ E) ++ S)).length
            rw [List.take_length] at this
            exact this⟩) (by rw [hlen, ← HA.out.2.1]; omega) hT
        rw [hlen, hmid, ← HA.out.2.1] at zo
        have HZO : Hid (Calls Try.prog 22 #[.slice (some ⟨w3.heap.size, 0, none⟩) (la + (n + le) + ls) (la + (n + le) + ls), .int .i64 la, .bool true, .int .u8 (a3 % 8)] w4 fun e w' => e = .returned (.tuple #[.int .u8 (a3 % 8), .int .u64 M, .bool false, .bool true, .int .i64 ((la + (n + le) : Nat) : Int), .bool true]) ∧ Below w4.heap.size w4 w') := zo
        have HB4 : Hid (Below w'.heap.size w' w4) := HB3.out.trans (hb4.mono HB3.out.size)
        clear zo hT hlen hown4 hb4
        go_wp2_with fail
        refine HZO.out.mono ?_
        rintro e w5 ⟨rfl, hb5⟩
        clear HZO
        go_wp2_with fail
        go_ret
        exact ⟨by simp, HB4.out.trans (hb5.mono HB4.out.size)⟩
end Go.Proofs.Qxb6000697a

/- The walk of FnHeadInvertsEncoding. -/
import Derived.Test.Qxb6000697aHead5
import Derived.Test.Qxb6000697aJoin
import Derived.OpenShut
namespace Go.Proofs.Qxb6000697a
open Go.RowKit

set_option maxHeartbeats 400000 in
theorem bound17 (a0 a4 : Option Addr) (l0 c0 l4 c4 : Nat) (a1 a2 a3 : Int) (w : World) (h0 : l0 ≤ 9223372036854775807) (h4 : l4 ≤ 9223372036854775807) :
    Calls Try.prog 17 #[.slice a0 l0 c0, .int .u8 a1, .int .u64 a2, .int .u8 a3, .slice a4 l4 c4] w fun e w' => (∃ b : Bool, e = .returned (.bool b) ∧ (b = true → l0 + l4 ≤ 1048576)) ∧ w' = w := by
  go_enter Try.func17, Try.ntmps17
  go_wp2
  all_goals go_ret
  all_goals exact ⟨⟨_, rfl, by simp; try omega⟩, rfl⟩

theorem vw_of {w : World} {a : Option Addr} {len cap : Nat} {zs : List Int}
    (h : (a = none ∧ len = 0 ∧ cap = 0 ∧ zs = []) ∨ ∃ x, a = some x ∧ len ≤ cap ∧ cap ≤ maxLen ∧ zs.length = cap ∧ (∀ i, i < zs.length → w.cell? (x.add i) = some (.int .u8 (zs.getD i 0))) ∧ ∀ n ∈ zs, (Lit.int .u8 n).wf = true) :
    ∃ A : List Int, A.length = len ∧ len ≤ 9223372036854775807 ∧ Vw w a A ∧ ∀ z ∈ A, 0 ≤ z ∧ z ≤ 255 := by
  rcases h with ⟨rfl, rfl, rfl, rfl⟩ | ⟨x, rfl, hl, hm, hz, hc, hw⟩
  · exact ⟨[], rfl, by omega, Or.inl rfl, by simp⟩
  · unfold maxLen at hm
    refine ⟨zs.take len, by simp; omega, by omega, ?_, fun z hz' => bounds_u8 (hw z (List.mem_of_mem_take hz'))⟩
    by_cases h0 : len = 0
    · exact Or.inl (by simp [h0])
    · obtain ⟨b, off, rfl, hcc⟩ := ints_at hc (by omega)
      refine Or.inr ⟨b, off, rfl, fun j hj => ?_⟩
      simp at hj
      rw [hcc j (by omega)]
      simp [hj, show j < zs.length by omega]

set_option maxHeartbeats 800000 in
theorem walk6 (a0 : Option Addr) (A : List Int) (cap0 : Nat) (a1 : Int) (a2 : Int) (a3 : Int) (a4 : Option Addr) (S : List Int) (cap4 : Nat) (w : World) (hA : Vw w a0 A) (hA1 : A.length ≤ 9223372036854775807) (hAz : ∀ z ∈ A, 0 ≤ z ∧ z ≤ 255) (hS : Vw w a4 S) (hS1 : S.length ≤ 9223372036854775807) (hSz : ∀ z ∈ S, 0 ≤ z ∧ z ≤ 255)
    (x0 : 0 ≤ a1) (x1 : a1 ≤ 255) (y0 : 0 ≤ a2) (y1 : a2 ≤ 18446744073709551615) (z0 : 0 ≤ a3) (z1 : a3 ≤ 255) :
    Calls Try.prog 6 #[.slice a0 A.length cap0, .int .u8 a1, .int .u64 a2, .int .u8 a3, .slice a4 S.length cap4] w fun e w' => e = .returned (.bool true) ∧ Below w.heap.size w w' := by
  obtain ⟨la, hla⟩ : ∃ la, la = A.length := ⟨_, rfl⟩
  obtain ⟨ls, hls⟩ : ∃ ls, ls = S.length := ⟨_, rfl⟩
  rw [← hla] at hA1
  rw [← hls] at hS1
  have HA : Hid (Vw w a0 A ∧ la = A.length) := ⟨hA, hla⟩
  have HS : Hid (Vw w a4 S ∧ ls = S.length) := ⟨hS, hls⟩
  rw [← hla, ← hls]
  clear hA hS hla hls
  have hmb := maskF_bd a2 (a3 % 5) y0 y1
  obtain ⟨M, HM⟩ : ∃ M, Hid (M = maskF a2 (a3 % 5)) := ⟨_, rfl⟩
  rw [← HM.out] at hmb
  obtain ⟨hM0, hM1⟩ := hmb
  have HC : Hid (∀ W, Calls Try.prog 18 #[.int .u64 a2, .int .u8 (a3 % 5)] W fun e w' => e = .returned (.int .u64 M) ∧ W = w') := by
    intro W; rw [HM.out]
    refine (mask_any a2 (a3 % 5) y0 y1 (by omega) (by omega) W).mono ?_
    rintro e w' ⟨he, hw⟩; exact ⟨he, hw.symm⟩
  go_enter Try.func6, Try.ntmps6
  go_wp2_with fail
  refine (bound17 _ _ _ _ _ _ _ _ _ _ hA1 hS1).mono ?_
  rintro e w' ⟨⟨b, rfl, hb⟩, rfl⟩
  cases b with
  | false =>
    go_wp2_with fail
    go_ret
    exact ⟨rfl, Below.refl _ _⟩
  | true =>
    have hle : la + ls ≤ 1048576 := hb rfl
    clear hb
    go_wp2_with fail
    refine (HC.out _).mono ?_
    rintro e w1 ⟨rfl, rfl⟩
    go_wp2_with fail
    obtain ⟨E, HE⟩ : ∃ E, Hid (E = encF (a1 % 8) M (a3 % 5)) := ⟨_, rfl⟩
    obtain ⟨le, HL⟩ : ∃ le, Hid (le = E.length) := ⟨_, rfl⟩
    have hle9 : le ≤ 9 := by rw [HL.out, HE.out]; exact encF_len _ _ _
    have enc := enc_any (a1 % 8) M (a3 % 5) (by omega) (by omega) (by omega) (by omega) hM0 hM1 (by rw [HM.out]; exact maskF_sm _ _) w'
    rw [← HE.out, ← HL.out] at enc
    refine enc.mono ?_
    rintro e w1 ⟨rfl, hb1, hown⟩
    clear enc
    have HO : Hid (w1.ownsRow w'.heap.size 5 1 (.slice (some ⟨w'.heap.size, 0, none⟩) le le) le (E.map (Value.int .u8))) := hown
    clear hown
    go_wp2_with fail
    have hvE : Vw w1 (some ⟨w'.heap.size, 0, none⟩) E := Or.inr ⟨_, 0, rfl, fun j hj => by
      have := bts_own (L := E) (by rw [← HL.out]; exact HO.out) E.length j (by simpa using hj)
      simpa using this⟩
    have jn := join3_any w1 a0 (some ⟨w'.heap.size, 0, none⟩) a4 A E S cap0 le cap4 (HA.out.1.below hb1) hvE (HS.out.1.below hb1) (la + le + ls) (by rw [HA.out.2, HS.out.2, HL.out]) (by omega)
    rw [← HA.out.2, ← HL.out, ← HS.out.2] at jn
    refine jn.mono ?_
    rintro e w2 ⟨rfl, hb2, hown2⟩
    clear jn hvE
    have HO2 : Hid (w2.ownsRow w1.heap.size 5 1 (.slice (some ⟨w1.heap.size, 0, none⟩) (la + le + ls) (la + le + ls)) (la + le + ls) ((A ++ (E ++ S)).map (Value.int .u8))) := hown2
    clear hown2
    go_wp2_with fail
    have hlen : (A ++ (E ++ S)).length = la + le + ls := by simp [← HA.out.2, ← HL.out, ← HS.out.2]; omega
    have hF : headF (A ++ (E ++ S)) A.length = some (a1 % 8, M, false, A.length + E.length) := by
      rw [HE.out]
      exact headF_enc A S (a1 % 8) M (a3 % 5) (by omega) (by omega) hM0 (by rw [HM.out]; exact maskF_sm _ _) (by rw [HM.out]; exact maskF_fit _ _ y0 y1 (by omega) (by omega))
    have zh := zzhead_some w2 (some ⟨w1.heap.size, 0, none⟩) (A ++ (E ++ S)) (la + le + ls) A.length (a1 % 8) M false (A.length + E.length) (byt_of (by
        intro z hz
        rw [List.mem_append, List.mem_append] at hz
        rcases hz with hz | hz | hz
        · exact hAz z hz
        · rw [HE.out] at hz
          exact encF_mem _ _ _ (by omega) (by omega) (by omega) (by omega) hM0 (by rw [HM.out]; exact maskF_sm _ _) z hz
        · exact hSz z hz)) (by rw [hlen]; omega) (by rw [hlen]; exact Nat.le_refl _)
      (Or.inr ⟨_, rfl, by
        have := bts_own (L := A ++ (E ++ S)) (by rw [hlen]; exact HO2.out) (A ++ (E ++ S)).length
        rw [List.take_length] at this
        exact this⟩) hF
    rw [hlen, ← HA.out.2, ← HL.out] at zh
    refine zh.mono ?_
    rintro e w3 ⟨rfl, hb3⟩
    clear zh hlen hF
    go_wp2_with fail
    go_ret
    exact ⟨by simp, hb1.trans ((hb2.mono hb1.size).trans (hb3.mono (Nat.le_trans hb1.size hb2.size)))⟩

end Go.Proofs.Qxb6000697a

/- The proof of 'Rows.FnHeadRefusesCutHeadSaid': the guide's template at this function's number and types, the walk filled in. -/
import Derived.Test.Qxb6000697aRows
import Derived.WalkKit
import Derived.ProofKit
import Derived.OpenShut
import Derived.ShutString
import Derived.Test.Qxb6000697aHead4
import Derived.Test.Qxb6000697aPlain2
namespace Go.Proofs.Qxb6000697a.fnHeadRefusesCutHead
open Go.ChangeShapes Go.WideShapes Go.ChangeAt Go.RowKit
open Go.ChangeMaps (open_string shut_string)
set_option linter.unusedVariables false      -- a walk need not use every 'w<i>' (that an integer argument fits its kind)

theorem own : ownKnob Try.prog.godebug = none := by kernel_rfl

/-! ### THE WALK -/
set_option maxHeartbeats 800000 in
theorem walk (a0 : Int) (a1 : Int) (a2 : Int) (a3 : Int) (w0 : 0 ≤ a0 ∧ a0 ≤ 255) (w1 : 0 ≤ a1 ∧ a1 ≤ 18446744073709551615) (w2 : 0 ≤ a2 ∧ a2 ≤ 255) (w3 : -9223372036854775808 ≤ a3 ∧ a3 ≤ 9223372036854775807) (w : World) :
    Calls Try.prog 7 #[.int .u8 a0, .int .u64 a1, .int .u8 a2, .int .i64 a3] w fun e w' => e = .returned (.bool true) ∧ Below w.heap.size w w' := by
  obtain ⟨x0, x1⟩ := w0
  obtain ⟨y0, y1⟩ := w1
  obtain ⟨z0, z1⟩ := w2
  obtain ⟨u0, u1⟩ := w3
  obtain ⟨n, hn⟩ : ∃ n : Nat, (1 + a2 % 4 = 1 ∧ n = 1) ∨ (1 + a2 % 4 = 2 ∧ n = 2) ∨ (1 + a2 % 4 = 3 ∧ n = 4) ∨ (1 + a2 % 4 = 4 ∧ n = 8) := by
    rcases (show a2 % 4 = 0 ∨ a2 % 4 = 1 ∨ a2 % 4 = 2 ∨ a2 % 4 = 3 by omega) with h | h | h | h
    · exact ⟨1, by omega⟩
    · exact ⟨2, by omega⟩
    · exact ⟨4, by omega⟩
    · exact ⟨8, by omega⟩
  have hmb := maskF_bd a1 (1 + a2 % 4) y0 y1
  obtain ⟨A, HA⟩ : ∃ A, Hid (A = maskF a1 (1 + a2 % 4)) := ⟨_, rfl⟩
  rw [← HA.out] at hmb
  have HM : Hid (∀ W, Calls Try.prog 18 #[.int .u64 a1, .int .u8 (1 + a2 % 4)] W fun e w' => e = .returned (.int .u64 A) ∧ w' = W) := by
    intro W; rw [HA.out]; exact mask_any a1 (1 + a2 % 4) y0 y1 (by omega) (by omega) W
  obtain ⟨hA0, hA1⟩ := hmb
  go_enter Try.func7, Try.ntmps7
  go_wp2_with fail
  refine (HM.out _).mono ?_
  rintro e w' ⟨rfl, rfl⟩
  go_wp2_with fail
  refine (enc_some (a0 % 8) A (1 + a2 % 4) n hn hA0 hA1 (by omega) (by omega) _).mono ?_
  rintro e w1 ⟨rfl, hb1, hown⟩
  by_cases h1 : a3 < 0
  · go_wp2_with fail
    go_ret
    exact ⟨rfl, hb1⟩
  by_cases h2 : (1 + n : Nat) ≤ a3
  · go_wp2_with fail
    go_ret
    exact ⟨rfl, hb1⟩
  obtain ⟨k, rfl⟩ : ∃ k : Nat, a3 = k := ⟨a3.toNat, by omega⟩
  have hlen : (((a0 % 8) * 32 + (23 + (1 + a2 % 4))) :: beB n A).length = 1 + n := by simp [beB_len]; omega
  have hlk : ((((a0 % 8) * 32 + (23 + (1 + a2 % 4))) :: beB n A).take k).length = k := by rw [List.length_take, hlen]; omega
  have HZ : Hid (∀ c, Calls Try.prog 20 #[.slice (some ⟨w'.heap.size, 0, none⟩) k c, .int .i64 0, .bool true] w1 fun e w' => ∃ o, e = .returned (.tuple #[.int .u8 0, .int .u64 0, .bool false, .int .i64 o, .bool false]) ∧ Below w1.heap.size w1 w') := by
    intro c
    have := zzhead_none w1 (some ⟨w'.heap.size, 0, none⟩) ((((a0 % 8) * 32 + (23 + (1 + a2 % 4))) :: beB n A).take k) c 0
      (byt_take (byt_of (byt_enc _ _ n A (by omega) (by omega) (by omega) (by omega))) k) (by rw [hlk]; omega)
      (Or.inr ⟨_, rfl, bts_own (by rw [hlen]; exact hown) k⟩) (headF_cut _ _ n _ (beB_len _ _) hn k (by omega))
    rw [hlk] at this
    exact this
  clear hlen hlk hown
  go_wp2_with fail
  refine (HZ.out _).mono ?_
  rintro e w2 ⟨o, rfl, hb2⟩
  go_wp2_with fail
  go_ret
  exact ⟨rfl, hb1.trans (hb2.mono hb1.size)⟩

/-! ### THE ROW's STEP: WRITTEN OUT: LEAVE IT -/
set_option maxRecDepth 100000 in
theorem lifted (os : Os) (started : os.Started) (H : Type) (enc : TypeId × Value → H) :
    ReturnsInHanded {} Try.checked os 7 .any (Rows.fnHeadRefusesCutHeadSpec.pre6 enc Try.prog Try.f7 Rows.fnHeadRefusesCutHeadRow.domain false) (Rows.fnHeadRefusesCutHeadSpec.post enc Try.prog Try.f7 false true false false) := by
  refine returnsInHanded_of_change (C := Try.checked) own started (by kernel_rfl) Try.func7
    (ChangeSpec.witness6 (enc := enc) (C := Try.checked) false ⟨#[], #[.int .u8 0, .int .u64 0, .int .u8 0, .int .i64 0], []⟩ 8 (by kernel_rfl) (by kernel_rfl) (by kernel_rfl) (by kernel_rfl)) ?_
  intro W base args ds gs before hval0 hW hcnd _
  have hval : ∀ (j : Nat) t v, Try.f7.params[j]? = some t → args[j]? = some v → Value.okWide Try.prog W .any base t v := hval0
  have hW' := hW
  obtain ⟨p, q, hA0, hV, rfl, hfz, hnd⟩ := hW
  have hA : DataW.TrodAll enc Try.prog W 0 (fun _ => true) true Try.f7.params.toList args.toList ds p := hA0
  rw [Try.params7] at hA hval
  obtain ⟨v0, vs0, d0, ds0, p0, q0, hargs, rfl, rfl, h0, r0⟩ := trodAll_cons hA
  obtain ⟨v1, vs1, d1, ds1, p1, q1, rfl, rfl, rfl, h1, r1⟩ := trodAll_cons r0
  obtain ⟨v2, vs2, d2, ds2, p2, q2, rfl, rfl, rfl, h2, r2⟩ := trodAll_cons r1
  obtain ⟨v3, vs3, d3, ds3, p3, q3, rfl, rfl, rfl, h3, r3⟩ := trodAll_cons r2
  obtain ⟨rfl, rfl, rfl⟩ := trodAll_nil r3
  obtain rfl : args = #[v0, v1, v2, v3] := by cases args; simp_all
  obtain ⟨rfl, rfl⟩ := trodVars_none hV
  obtain ⟨a0, rfl, rfl, rfl, w0⟩ := open_int Try.underlying5 (hval 0 5 v0 rfl rfl) h0
  obtain ⟨a1, rfl, rfl, rfl, w1⟩ := open_int Try.underlying30 (hval 1 30 v1 rfl rfl) h1
  obtain ⟨a2, rfl, rfl, rfl, w2⟩ := open_int Try.underlying5 (hval 2 5 v2 rfl rfl) h2
  obtain ⟨a3, rfl, rfl, rfl, w3⟩ := open_int Try.underlying3 (hval 3 3 v3 rfl rfl) h3
  clear hA0 hval0
  simp only [List.append_nil] at hW'
  refine (walk a0 a1 a2 a3 (bounds_u8 w0) (bounds_u64 w1) (bounds_u8 w2) (bounds_i64 w3) W).mono fun e W' ⟨he, bel⟩ => ?_
  subst he
  exact ⟨_, rfl, _, _, _, [], _, [], hW', trodAll_mk1 (shut_bool Try.underlying4 _), (trodAll_cons_mk (shut_int Try.underlying5 w0) (trodAll_cons_mk (shut_int Try.underlying30 w1) (trodAll_cons_mk (shut_int Try.underlying5 w2) (trodAll_cons_mk (shut_int Try.underlying3 w3) trodAll_mk0)))), rfl, bel.frame _, fun h => by cases h⟩

theorem over : Rows.fnHeadRefusesCutHeadRow.holds Try.pinned (OpenSpec.ofChange Rows.fnHeadRefusesCutHeadSpec) :=
  OpenClaim.holds_of_wide 7 Try.f7 rfl rfl rfl rfl rfl rfl rfl ⟨rfl, rfl, rfl, rfl, rfl⟩ rfl rfl rfl rfl rfl (by kernel_rfl) Try.func7 (by kernel_rfl)
    (of_decide_eq_true (by kernel_rfl)) (by unfold Func.isWrapper; first | (rw [if_pos (by decide +kernel)]; kernel_rfl) | (rw [if_neg (by decide +kernel)]; exact ⟨rfl, rfl⟩))
    (fun os started H enc _ => lifted os started H enc)

/-- ████ THE STATEMENT ████ -/
theorem proved : Rows.FnHeadRefusesCutHeadSaid :=
  over
end Go.Proofs.Qxb6000697a.fnHeadRefusesCutHead

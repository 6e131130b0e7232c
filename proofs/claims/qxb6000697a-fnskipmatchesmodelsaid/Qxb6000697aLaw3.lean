/- The walk of FnSkipMatchesModel. -/
import Derived.Test.Qxb6000697aLaw9
import Derived.Test.Qxb6000697aModel
namespace Go.Proofs.Qxb6000697a
open Go.RowKit
set_option linter.unusedVariables false

set_option maxHeartbeats 400000 in
theorem bound11 (a0 : Option Addr) (l0 c0 : Nat) (a1 : Int) (w : World) (h0 : l0 ≤ 9223372036854775807) :
    Calls Try.prog 11 #[.slice a0 l0 c0, .int .i64 a1] w fun e w' => (∃ b : Bool, e = .returned (.bool b) ∧ (b = true → l0 ≤ 1048576)) ∧ w' = w := by
  go_enter Try.func11, Try.ntmps11
  go_wp2
  all_goals go_ret
  all_goals exact ⟨⟨_, rfl, by simp; try omega⟩, rfl⟩

set_option maxHeartbeats 1000000 in
theorem walk3 (ao : Option Addr) (A : List Int) (cap : Nat) (off : Int) (w : World) (hA : Vw w ao A) (hA1 : A.length ≤ 9223372036854775807) (hAz : ∀ z ∈ A, 0 ≤ z ∧ z ≤ 255)
    (o0 : -9223372036854775808 ≤ off) (o1 : off ≤ 9223372036854775807) :
    Calls Try.prog 3 #[.slice ao A.length cap, .int .i64 off] w fun e w' => e = .returned (.bool true) ∧ Below w.heap.size w w' := by
  obtain ⟨i0, hi, hz0, hz1, hz2⟩ := info_parts Try.info5
  obtain ⟨la, hla⟩ : ∃ la, la = A.length := ⟨_, rfl⟩
  rw [← hla] at hA1
  have HA : Hid (Vw w ao A ∧ la = A.length) := ⟨hA, hla⟩
  have HZ : Hid (∀ z ∈ A, 0 ≤ z ∧ z ≤ 255) := hAz
  rw [← hla]
  clear hA hla hAz
  have hneq := fun wx a n c => run_neq_slice_nil_any (P := Try.prog) wx 22 5 a n c 0 0 Try.underlying22
  go_enter Try.func3, Try.ntmps3
  go_wp2_with fail
  refine (bound11 _ _ _ _ _ hA1).mono ?_
  rintro e w' ⟨⟨b, rfl, hb⟩, rfl⟩
  cases b with
  | false =>
    go_wp2_with fail
    go_ret
    exact ⟨rfl, Below.refl _ _⟩
  | true =>
    have hle : la ≤ 1048576 := hb rfl
    clear hb
    by_cases h1 : off < 0
    · go_wp2_with fail
      go_ret
      exact ⟨rfl, Below.refl _ _⟩
    by_cases h2 : (la : Int) < off
    · go_wp2_with fail
      go_ret
      exact ⟨rfl, Below.refl _ _⟩
    obtain ⟨k, rfl⟩ : ∃ k : Nat, off = k := ⟨off.toNat, by omega⟩
    cases ao with
    | none =>
      have hcap : la ≤ cap := by
        rcases HA.out.1 with h | ⟨_, _, e, _⟩
        · have := HA.out.2; omega
        · cases e
      have HK : Hid (∀ W, Below w'.heap.size w' W → Calls Try.prog 12 #[.slice none la cap, .int .i64 k, .bool true] W fun e w' => SkipRes e (itemF A k) ∧ Below W.heap.size W w') := by
        intro W hW
        have := zzskip_any W none A cap k (byt_of HZ.out) (by rw [← HA.out.2]; omega) (by rw [← HA.out.2]; omega) (Or.inl (by rcases HA.out.1 with h | ⟨_, _, e, _⟩; exact h; cases e)) (by rw [← HA.out.2]; omega)
        rw [← HA.out.2] at this
        unfold itemF
        rw [← HA.out.2]
        exact this
      have HM : Hid (∀ W, Below w'.heap.size w' W → Calls Try.prog 13 #[.slice none la cap, .int .i64 k] W fun e w' => (∃ y ok, e = .returned (.tuple #[.int .i64 y, .bool ok]) ∧ ok = (itemF A k).isSome ∧ ∀ o, itemF A k = some o → y = (o : Int)) ∧ Below W.heap.size W w') := by
        intro W hW
        have := model_any W none A cap k (byt_of HZ.out) (by rw [← HA.out.2]; omega) (Or.inl (by rcases HA.out.1 with h | ⟨_, _, e, _⟩; exact h; cases e)) (by rw [← HA.out.2]; omega)
        rw [← HA.out.2] at this
        exact this
      go_wp2_with fail
      refine (HK.out _ (Below.refl _ _)).mono ?_
      rintro e w3 ⟨hR, hb3⟩
      have hb3' : Below w'.heap.size w' w3 := (Below.refl w'.heap.size w').trans (hb3.mono (Below.refl w'.heap.size w').size)
      cases hS : itemF A k with
      | none =>
        rw [hS] at hR
        obtain ⟨y, rfl⟩ := hR
        have HSS : Hid (itemF A k = none) := hS
        clear hS
        go_wp2_with fail
        refine (HM.out _ hb3).mono ?_
        rintro e w4 ⟨⟨y2, ok, rfl, hok, _⟩, hb4⟩
        rw [HSS.out] at hok
        have hok2 : ok = false := hok
        subst hok2
        clear hok HSS
        go_wp2_with fail
        go_ret
        exact ⟨by simp, hb3'.trans (hb4.mono hb3'.size)⟩
      | some o =>
        rw [hS] at hR
        have hR2 : e = .returned (.tuple #[.int .i64 o, .bool true]) := hR
        subst hR2
        have HSS : Hid (itemF A k = some o) := hS
        clear hS hR
        go_wp2_with fail
        refine (HM.out _ hb3).mono ?_
        rintro e w4 ⟨⟨y2, ok, rfl, hok, hy⟩, hb4⟩
        have hy2 := hy o HSS.out
        rw [HSS.out] at hok
        have hok2 : ok = true := hok
        subst hok2
        subst hy2
        clear hok HSS hy
        go_wp2_with fail
        go_ret
        exact ⟨by simp, hb3'.trans (hb4.mono hb3'.size)⟩
    | some x =>
      go_wp2_with (first | (at_make; refine wpList_make_full _ rfl _ _ 22 rfl w'.heap.size 5 i0 (.int .u8 0) 1 Try.underlying22 hi hz0 hz1 _ _ _ _ la rfl rfl rfl rfl ?c1 ?c2 ?c3 ?_))
      case c1 => rw [hz2]; omega
      case c2 => unfold maxLen; omega
      case c3 => exact Nat.le_refl _
      intro w1 hown hgrow
      have hb1 : Below w'.heap.size w' w1 := (Below.refl _ _).grown hgrow (Nat.le_refl _) (fun k hk => by cases hk)
      have HG : Hid (w1.heap[w'.heap.size]? = some (.cells (List.replicate la (Value.int .u8 0)).toArray 5 (0, 0))) := by
        have := own_block hown
        rw [toList_madeCells_one] at this
        exact this
      clear hown hgrow
      obtain ⟨CS, HCS⟩ : ∃ CS, Hid (CS = A.map (Value.int .u8)) := ⟨_, rfl⟩
      have hcl : CS.length = la := by rw [HCS.out]; simp [HA.out.2]
      have HCL : Hid (CS.length = la) := hcl
      clear hcl
      go_wp2_with (refine wpList_copy_splice rfl (.tmp 30) (.tmp 31) 22 22 rfl 5 Try.underlying22 size5 _ _ _ _ _ _ rfl rfl w'.heap.size 0 (List.replicate la (Value.int .u8 0)) 5 HG.out CS ?d1 ?d2 ?d3 ?d4 w'.heap.size w' hb1 (Nat.le_refl _) ?_)
      case d1 => rw [HCL.out]; simp
      case d2 =>
        intro hpos j v hv
        rw [HCS.out] at hv
        rcases HA.out.1.below hb1 with h0 | ⟨bb, oo, e, h⟩
        · rw [HCS.out] at hpos; simp [h0] at hpos
        · cases e
          have hj : j < A.length := by simpa using (List.getElem?_eq_some_iff.1 hv).1
          rw [Addr.add_lit, h j hj]
          simpa [hj] using hv
      case d3 => rw [HCL.out]; simp
      case d4 => rw [HCS.out]; exact ints_oneCell .u8 A
      intro w2 HG2 hb2
      have HB2 : Hid (Bts w2 w'.heap.size A) := by
        have := HG2.out
        rw [HCS.out, splice_all la A HA.out.2.symm] at this
        exact bts_block this
      clear HG HG2 HCS HCL hb1
      have HK : Hid (∀ W, Below w2.heap.size w2 W → Calls Try.prog 12 #[.slice (some ⟨w'.heap.size, 0, none⟩) la la, .int .i64 k, .bool true] W fun e w' => SkipRes e (itemF A k) ∧ Below W.heap.size W w') := by
        intro W hW
        have := zzskip_any W (some ⟨w'.heap.size, 0, none⟩) A la k (byt_of HZ.out) (by rw [← HA.out.2]; omega) (by rw [← HA.out.2]; omega) (Or.inr ⟨_, rfl, fun j hj => (hW.cell (World.block_lt_of_cell? w2 _ (HB2.out j hj))).trans (HB2.out j hj)⟩) (by rw [← HA.out.2]; omega)
        rw [← HA.out.2] at this
        unfold itemF
        rw [← HA.out.2]
        exact this
      have HM : Hid (∀ W, Below w2.heap.size w2 W → Calls Try.prog 13 #[.slice (some ⟨w'.heap.size, 0, none⟩) la la, .int .i64 k] W fun e w' => (∃ y ok, e = .returned (.tuple #[.int .i64 y, .bool ok]) ∧ ok = (itemF A k).isSome ∧ ∀ o, itemF A k = some o → y = (o : Int)) ∧ Below W.heap.size W w') := by
        intro W hW
        have := model_any W (some ⟨w'.heap.size, 0, none⟩) A la k (byt_of HZ.out) (by rw [← HA.out.2]; omega) (Or.inr ⟨_, rfl, fun j hj => (hW.cell (World.block_lt_of_cell? w2 _ (HB2.out j hj))).trans (HB2.out j hj)⟩) (by rw [← HA.out.2]; omega)
        rw [← HA.out.2] at this
        exact this
      go_wp2_with fail
      refine (HK.out _ (Below.refl _ _)).mono ?_
      rintro e w3 ⟨hR, hb3⟩
      have hb3' : Below w'.heap.size w' w3 := hb2.trans (hb3.mono hb2.size)
      cases hS : itemF A k with
      | none =>
        rw [hS] at hR
        obtain ⟨y, rfl⟩ := hR
        have HSS : Hid (itemF A k = none) := hS
        clear hS
        go_wp2_with fail
        refine (HM.out _ hb3).mono ?_
        rintro e w4 ⟨⟨y2, ok, rfl, hok, _⟩, hb4⟩
        rw [HSS.out] at hok
        have hok2 : ok = false := hok
        subst hok2
        clear hok HSS
        go_wp2_with fail
        go_ret
        exact ⟨by simp, hb3'.trans (hb4.mono hb3'.size)⟩
      | some o =>
        rw [hS] at hR
        have hR2 : e = .returned (.tuple #[.int .i64 o, .bool true]) := hR
        subst hR2
        have HSS : Hid (itemF A k = some o) := hS
        clear hS hR
        go_wp2_with fail
        refine (HM.out _ hb3).mono ?_
        rintro e w4 ⟨⟨y2, ok, rfl, hok, hy⟩, hb4⟩
        have hy2 := hy o HSS.out
        rw [HSS.out] at hok
        have hok2 : ok = true := hok
        subst hok2
        subst hy2
        clear hok HSS hy
        go_wp2_with fail
        go_ret
        exact ⟨by simp, hb3'.trans (hb4.mono hb3'.size)⟩

end Go.Proofs.Qxb6000697a

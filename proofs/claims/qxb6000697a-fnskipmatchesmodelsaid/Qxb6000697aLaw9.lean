/- The walk of FnOpenRefusalIsSkip. -/
import Derived.Test.Qxb6000697aShims
import Derived.Test.Qxb6000697aLaw6
import Derived.Laws.CopyOwn
namespace Go.Proofs.Qxb6000697a
open Go.RowKit
set_option linter.unusedVariables false

theorem own_block {w : World} {base g n : Nat} {xs : List Value} (h : w.ownsRow base 5 1 (.slice (some ⟨g, 0, none⟩) n n) n xs) : w.heap[g]? = some (.cells xs.toArray 5 (0, 0)) := by
  rcases h.2 with ⟨h', _⟩ | ⟨g', cap', cur, h', _, hg, _, _, hcs, htake⟩
  · simp at h'
  · simp only [Value.slice.injEq, Option.some.injEq, Addr.mk.injEq, and_true, true_and] at h'
    obtain ⟨rfl, rfl⟩ := h'
    rw [hg, ← htake, List.take_of_length_le (by simp; omega)]

theorem size5 : (Try.prog.info? 5).map (·.size) = some 1 := by kernel_rfl

set_option maxHeartbeats 400000 in
theorem bound23 (a0 : Option Addr) (l0 c0 : Nat) (a1 a2 : Int) (w : World) (h0 : l0 ≤ 9223372036854775807) :
    Calls Try.prog 23 #[.slice a0 l0 c0, .int .i64 a1, .int .u8 a2] w fun e w' => (∃ b : Bool, e = .returned (.bool b) ∧ (b = true → l0 ≤ 1048576)) ∧ w' = w := by
  go_enter Try.func23, Try.ntmps23
  go_wp2
  all_goals go_ret
  all_goals exact ⟨⟨_, rfl, by simp; try omega⟩, rfl⟩

theorem bts_block {w : World} {g : Nat} {A : List Int} (h : w.heap[g]? = some (.cells (A.map (Value.int .u8)).toArray 5 (0, 0))) : Bts w g A := by
  intro j hj
  simp [World.cell?, h, hj]

theorem splice_all (n : Nat) (A : List Int) (hA : A.length = n) : splice (List.replicate n (Value.int .u8 0)) 0 (A.map (Value.int .u8)) = A.map (Value.int .u8) := by
  simp [splice, hA]

set_option maxHeartbeats 1000000 in
theorem walk9 (ao : Option Addr) (A : List Int) (cap : Nat) (off : Int) (major : Int) (w : World) (hA : Vw w ao A) (hA1 : A.length ≤ 9223372036854775807) (hAz : ∀ z ∈ A, 0 ≤ z ∧ z ≤ 255)
    (o0 : -9223372036854775808 ≤ off) (o1 : off ≤ 9223372036854775807) :
    Calls Try.prog 9 #[.slice ao A.length cap, .int .i64 off, .int .u8 major] w fun e w' => e = .returned (.bool true) ∧ Below w.heap.size w w' := by
  obtain ⟨i0, hi, hz0, hz1, hz2⟩ := info_parts Try.info5
  obtain ⟨la, hla⟩ : ∃ la, la = A.length := ⟨_, rfl⟩
  rw [← hla] at hA1
  have HA : Hid (Vw w ao A ∧ la = A.length) := ⟨hA, hla⟩
  have HZ : Hid (∀ z ∈ A, 0 ≤ z ∧ z ≤ 255) := hAz
  rw [← hla]
  clear hA hla hAz
  have hneq := fun wx a n c => run_neq_slice_nil_any (P := Try.prog) wx 22 5 a n c 0 0 Try.underlying22
  go_enter Try.func9, Try.ntmps9
  go_wp2_with fail
  refine (bound23 _ _ _ _ _ _ hA1).mono ?_
  rintro e w' ⟨⟨b, rfl, hb⟩, rfl⟩
  cases b with
  | false =>
    go_wp2_with fail
    go_ret
    exact ⟨rfl, Below.refl _ _⟩
  | true =>
    have hle : la ≤ 1048576 := hb rfl
    clear hb
    by_cases h1 : off < 0
    · go_wp2_with fail
      go_ret
      exact ⟨rfl, Below.refl _ _⟩
    by_cases h2 : (la : Int) < off
    · go_wp2_with fail
      go_ret
      exact ⟨rfl, Below.refl _ _⟩
    obtain ⟨k, rfl⟩ : ∃ k : Nat, off = k := ⟨off.toNat, by omega⟩
    cases ao with
    | none =>
      have hcap : la ≤ cap := by
        rcases HA.out.1 with h | ⟨_, _, e, _⟩
        · have := HA.out.2; omega
        · cases e
      have HO : Hid (∀ W, Below w'.heap.size w' W → Calls Try.prog 22 #[.slice none la cap, .int .i64 k, .bool true, .int .u8 major] W fun e w' => (∃ m a i mt x ok, e = .returned (.tuple #[.int .u8 m, .int .u64 a, .bool i, .bool mt, .int .i64 x, .bool ok]) ∧ OpenQ A k major m a i mt x ok) ∧ Below W.heap.size W w') := by
        intro W hW
        have := zzopen_any W none A cap k major (byt_of HZ.out) (by rw [← HA.out.2]; omega) (by rw [← HA.out.2]; omega) (Or.inl (by rcases HA.out.1 with h | ⟨_, _, e, _⟩; exact h; cases e)) (by rw [← HA.out.2]; omega)
        rw [← HA.out.2] at this
        exact this
      have HK : Hid (∀ W, Below w'.heap.size w' W → Calls Try.prog 12 #[.slice none la cap, .int .i64 k, .bool true] W fun e w' => SkipRes e (skipF A (A.length + 1) k) ∧ Below W.heap.size W w') := by
        intro W hW
        have := zzskip_any W none A cap k (byt_of HZ.out) (by rw [← HA.out.2]; omega) (by rw [← HA.out.2]; omega) (Or.inl (by rcases HA.out.1 with h | ⟨_, _, e, _⟩; exact h; cases e)) (by rw [← HA.out.2]; omega)
        rw [← HA.out.2] at this ⊢
        exact this
      go_wp2_with fail
      refine (HO.out _ (Below.refl _ _)).mono ?_
      rintro e w3 ⟨⟨m, a, i, mt, x, ok, rfl, hQ⟩, hb3⟩
      rcases hQ with ⟨o, hT, hm, rfl, hx, rfl⟩ | ⟨rfl, rfl, rfl, rfl, hok, hx⟩
      · have hm6 := (tagsF_some A (byt_of HZ.out) _ _ _ _ _ _ hT).1
        have hmb : (m == major) = true := by simpa using hm
        have hmb6 : (major != 6) = true := by rw [hm] at hm6; simpa using hm6
        clear hT hm hx hm6
        go_wp2_with fail
        go_ret
        exact ⟨by simp, (Below.refl w'.heap.size w').trans (hb3.mono (Below.refl w'.heap.size w').size)⟩
      · have HX : Hid (ok = (skipF A (A.length + 1) k).isSome ∧ ∀ o, skipF A (A.length + 1) k = some o → x = (o : Int)) := ⟨hok, hx⟩
        clear hok hx
        go_wp2_with fail
        refine (HK.out _ hb3).mono ?_
        rintro e w4 ⟨hR, hb4⟩
        have hend : Below w'.heap.size w' w4 := (Below.refl w'.heap.size w').trans ((hb3.mono (Below.refl w'.heap.size w').size).trans (hb4.mono (Nat.le_trans (Below.refl w'.heap.size w').size hb3.size)))
        cases hS : skipF A (A.length + 1) k with
        | none =>
          rw [hS] at hR
          obtain ⟨y, rfl⟩ := hR
          have hok := HX.out.1
          rw [hS] at hok
          have hok2 : ok = false := hok
          subst hok2
          clear hok HX hS
          go_wp2_with fail
          go_ret
          exact ⟨by simp, hend⟩
        | some o =>
          rw [hS] at hR
          have hok := HX.out.1
          rw [hS] at hok
          have hok2 : ok = true := hok
          subst hok2
          obtain rfl := HX.out.2 o hS
          have hR2 : e = .returned (.tuple #[.int .i64 o, .bool true]) := hR
          subst hR2
          clear hok HX hS hR
          go_wp2_with fail
          go_ret
          exact ⟨by simp, hend⟩
    | some x =>
      go_wp2_with (first | (at_make; refine wpList_make_full _ rfl _ _ 22 rfl w'.heap.size 5 i0 (.int .u8 0) 1 Try.underlying22 hi hz0 hz1 _ _ _ _ la rfl rfl rfl rfl ?c1 ?c2 ?c3 ?_))
      case c1 => rw [hz2]; omega
      case c2 => unfold maxLen; omega
      case c3 => exact Nat.le_refl _
      intro w1 hown hgrow
      have hb1 : Below w'.heap.size w' w1 := (Below.refl _ _).grown hgrow (Nat.le_refl _) (fun k hk => by cases hk)
      have HG : Hid (w1.heap[w'.heap.size]? = some (.cells (List.replicate la (Value.int .u8 0)).toArray 5 (0, 0))) := by
        have := own_block hown
        rw [toList_madeCells_one] at this
        exact this
      clear hown hgrow
      obtain ⟨CS, HCS⟩ : ∃ CS, Hid (CS = A.map (Value.int .u8)) := ⟨_, rfl⟩
      have hcl : CS.length = la := by rw [HCS.out]; simp [HA.out.2]
      have HCL : Hid (CS.length = la) := hcl
      clear hcl
      go_wp2_with (refine wpList_copy_splice rfl (.tmp 37) (.tmp 38) 22 22 rfl 5 Try.underlying22 size5 _ _ _ _ _ _ rfl rfl w'.heap.size 0 (List.replicate la (Value.int .u8 0)) 5 HG.out CS ?d1 ?d2 ?d3 ?d4 w'.heap.size w' hb1 (Nat.le_refl _) ?_)
      case d1 => rw [HCL.out]; simp
      case d2 =>
        intro hpos j v hv
        rw [HCS.out] at hv
        rcases HA.out.1.below hb1 with h0 | ⟨bb, oo, e, h⟩
        · rw [HCS.out] at hpos; simp [h0] at hpos
        · cases e
          have hj : j < A.length := by simpa using (List.getElem?_eq_some_iff.1 hv).1
          rw [Addr.add_lit, h j hj]
          simpa [hj] using hv
      case d3 => rw [HCL.out]; simp
      case d4 => rw [HCS.out]; exact ints_oneCell .u8 A
      intro w2 HG2 hb2
      have HB2 : Hid (Bts w2 w'.heap.size A) := by
        have := HG2.out
        rw [HCS.out, splice_all la A HA.out.2.symm] at this
        exact bts_block this
      clear HG HG2 HCS HCL hb1
      have HO : Hid (∀ W, Below w2.heap.size w2 W → Calls Try.prog 22 #[.slice (some ⟨w'.heap.size, 0, none⟩) la la, .int .i64 k, .bool true, .int .u8 major] W fun e w' => (∃ m a i mt x ok, e = .returned (.tuple #[.int .u8 m, .int .u64 a, .bool i, .bool mt, .int .i64 x, .bool ok]) ∧ OpenQ A k major m a i mt x ok) ∧ Below W.heap.size W w') := by
        intro W hW
        have := zzopen_any W (some ⟨w'.heap.size, 0, none⟩) A la k major (byt_of HZ.out) (by rw [← HA.out.2]; omega) (by rw [← HA.out.2]; omega) (Or.inr ⟨_, rfl, fun j hj => (hW.cell (World.block_lt_of_cell? w2 _ (HB2.out j hj))).trans (HB2.out j hj)⟩) (by rw [← HA.out.2]; omega)
        rw [← HA.out.2] at this
        exact this
      have HK : Hid (∀ W, Below w2.heap.size w2 W → Calls Try.prog 12 #[.slice (some ⟨w'.heap.size, 0, none⟩) la la, .int .i64 k, .bool true] W fun e w' => SkipRes e (skipF A (A.length + 1) k) ∧ Below W.heap.size W w') := by
        intro W hW
        have := zzskip_any W (some ⟨w'.heap.size, 0, none⟩) A la k (byt_of HZ.out) (by rw [← HA.out.2]; omega) (by rw [← HA.out.2]; omega) (Or.inr ⟨_, rfl, fun j hj => (hW.cell (World.block_lt_of_cell? w2 _ (HB2.out j hj))).trans (HB2.out j hj)⟩) (by rw [← HA.out.2]; omega)
        rw [← HA.out.2] at this ⊢
        exact this
      go_wp2_with fail
      refine (HO.out _ (Below.refl _ _)).mono ?_
      rintro e w3 ⟨⟨m, a, i, mt, x, ok, rfl, hQ⟩, hb3⟩
      rcases hQ with ⟨o, hT, hm, rfl, hx, rfl⟩ | ⟨rfl, rfl, rfl, rfl, hok, hx⟩
      · have hm6 := (tagsF_some A (byt_of HZ.out) _ _ _ _ _ _ hT).1
        have hmb : (m == major) = true := by simpa using hm
        have hmb6 : (major != 6) = true := by rw [hm] at hm6; simpa using hm6
        clear hT hm hx hm6
        go_wp2_with fail
        go_ret
        exact ⟨by simp, hb2.trans (hb3.mono hb2.size)⟩
      · have HX : Hid (ok = (skipF A (A.length + 1) k).isSome ∧ ∀ o, skipF A (A.length + 1) k = some o → x = (o : Int)) := ⟨hok, hx⟩
        clear hok hx
        go_wp2_with fail
        refine (HK.out _ hb3).mono ?_
        rintro e w4 ⟨hR, hb4⟩
        have hend : Below w'.heap.size w' w4 := hb2.trans ((hb3.mono hb2.size).trans (hb4.mono (Nat.le_trans hb2.size hb3.size)))
        cases hS : skipF A (A.length + 1) k with
        | none =>
          rw [hS] at hR
          obtain ⟨y, rfl⟩ := hR
          have hok := HX.out.1
          rw [hS] at hok
          have hok2 : ok = false := hok
          subst hok2
          clear hok HX hS
          go_wp2_with fail
          go_ret
          exact ⟨by simp, hend⟩
        | some o =>
          rw [hS] at hR
          have hok := HX.out.1
          rw [hS] at hok
          have hok2 : ok = true := hok
          subst hok2
          obtain rfl := HX.out.2 o hS
          have hR2 : e = .returned (.tuple #[.int .i64 o, .bool true]) := hR
          subst hR2
          clear hok HX hS hR
          go_wp2_with fail
          go_ret
          exact ⟨by simp, hend⟩
end Go.Proofs.Qxb6000697a

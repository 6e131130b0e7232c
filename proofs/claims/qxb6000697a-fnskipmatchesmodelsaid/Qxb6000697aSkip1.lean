/- The method skip: the ways without a loop. -/
import Derived.Test.Qxb6000697aMore
import Derived.Test.Qxb6000697aSkipF
import Derived.Test.Qxb6000697aHead5
namespace Go.Proofs.Qxb6000697a
open Go.RowKit
set_option linter.unusedVariables false

/-- What a method leaves of the reader: it stands at o, or it has failed. -/
def Out (w : World) (b : Nat) (ao : Option Addr) (n c : Nat) : Option Nat → Prop
  | none => ∃ x, Rd w b ao n c x false
  | some o => Rd w b ao n c o true

set_option maxHeartbeats 400000 in
theorem skip_failed (w : World) (b : Nat) (ao : Option Addr) (n c : Nat) (x : Int) (h : Rd w b ao n c x false) :
    Calls Try.prog 25 #[.pointer (some ⟨b, 0, none⟩)] w fun e w' => e = .returned (.tuple #[]) ∧ w.grownBy w' (some b) ∧ Out w' b ao n c none := by
  have HH : Hid (Calls Try.prog 28 #[.pointer (some ⟨b, 0, none⟩)] w fun e w' => e = .returned (.agg #[.int .u8 0, .int .u64 0, .bool false]) ∧ Rd w' b ao n c x false ∧ w.grownBy w' (some b)) := head_failed w b ao n c x h
  have hb := h.facts.2.2.2.2.2
  go_enter Try.func25, Try.ntmps25
  go_wp2_with fail
  refine HH.out.mono ?_
  rintro e w1 ⟨rfl, hR, hg⟩
  clear HH
  go_wp2_with fail
  go_end0
  exact ⟨rfl, gb_alloc hg _, ⟨_, hR.alloc _⟩⟩

set_option maxHeartbeats 400000 in
theorem skip_none (w : World) (b : Nat) (ao : Option Addr) (zs : List Int) (c off : Nat) (hZ : Byt zs) (hn : zs.length ≤ 1099511627776) (h : Rd w b ao zs.length c off true) (hs : Src w b ao zs) (hF : headF zs off = none) :
    Calls Try.prog 25 #[.pointer (some ⟨b, 0, none⟩)] w fun e w' => e = .returned (.tuple #[]) ∧ w.grownBy w' (some b) ∧ Out w' b ao zs.length c none := by
  have HH : Hid (Calls Try.prog 28 #[.pointer (some ⟨b, 0, none⟩)] w fun e w' => e = .returned (.agg #[.int .u8 0, .int .u64 0, .bool false]) ∧ (∃ x, Rd w' b ao zs.length c x false) ∧ w.grownBy w' (some b)) := head_none w b ao zs c off hZ hn h hs hF
  go_enter Try.func25, Try.ntmps25
  go_wp2_with fail
  refine HH.out.mono ?_
  rintro e w1 ⟨rfl, ⟨x, hR⟩, hg⟩
  clear HH
  go_wp2_with fail
  go_end0
  exact ⟨rfl, gb_alloc hg _, ⟨_, hR.alloc _⟩⟩

set_option maxHeartbeats 400000 in
theorem skip_plain (w : World) (b : Nat) (ao : Option Addr) (zs : List Int) (c off : Nat) (m a : Int) (i : Bool) (o : Nat) (hZ : Byt zs) (hn : zs.length ≤ 1099511627776) (hnc : zs.length ≤ c) (h : Rd w b ao zs.length c off true) (hs : Src w b ao zs) (hF : headF zs off = some (m, a, i, o))
    (hm : m < 2 ∨ 6 < m) :
    Calls Try.prog 25 #[.pointer (some ⟨b, 0, none⟩)] w fun e w' => e = .returned (.tuple #[]) ∧ w.grownBy w' (some b) ∧ Out w' b ao zs.length c (some o) := by
  have HH : Hid (Calls Try.prog 28 #[.pointer (some ⟨b, 0, none⟩)] w fun e w' => e = .returned (.agg #[.int .u8 m, .int .u64 a, .bool i]) ∧ Rd w' b ao zs.length c o true ∧ w.grownBy w' (some b)) := head_some w b ao zs c off m a i o hZ hn hnc h hs hF
  clear hF
  go_enter Try.func25, Try.ntmps25
  go_wp2_with fail
  refine HH.out.mono ?_
  rintro e w1 ⟨rfl, hR, hg⟩
  clear HH
  go_wp2_with fail
  go_end0
  exact ⟨rfl, gb_alloc hg _, hR.alloc _⟩

/-- What is known of the items inside. -/
def Inner (b : Nat) (ao : Option Addr) (zs : List Int) (c lo : Nat) (f : Nat → Option Nat) : Prop :=
  ∀ (w : World) (o : Nat), Rd w b ao zs.length c o true → Src w b ao zs → lo < o → o ≤ zs.length →
    Calls Try.prog 25 #[.pointer (some ⟨b, 0, none⟩)] w fun e w' => e = .returned (.tuple #[]) ∧ w.grownBy w' (some b) ∧ Out w' b ao zs.length c (f o)

set_option maxHeartbeats 400000 in
theorem skip_tag (w : World) (b : Nat) (ao : Option Addr) (zs : List Int) (c off : Nat) (m a : Int) (i : Bool) (o : Nat) (f : Nat → Option Nat) (hZ : Byt zs) (hn : zs.length ≤ 1099511627776) (hnc : zs.length ≤ c) (h : Rd w b ao zs.length c off true) (hs : Src w b ao zs) (hF : headF zs off = some (m, a, i, o))
    (hI : Hid (Inner b ao zs c off f)) (hm : m = 6) :
    Calls Try.prog 25 #[.pointer (some ⟨b, 0, none⟩)] w fun e w' => e = .returned (.tuple #[]) ∧ w.grownBy w' (some b) ∧ Out w' b ao zs.length c (f o) := by
  subst hm
  have hh := headF_some hZ hF
  have HH : Hid (Calls Try.prog 28 #[.pointer (some ⟨b, 0, none⟩)] w fun e w' => e = .returned (.agg #[.int .u8 6, .int .u64 a, .bool i]) ∧ Rd w' b ao zs.length c o true ∧ w.grownBy w' (some b)) := head_some w b ao zs c off 6 a i o hZ hn hnc h hs hF
  clear hF
  go_enter Try.func25, Try.ntmps25
  go_wp2_with fail
  refine HH.out.mono ?_
  rintro e w1 ⟨rfl, hR, hg⟩
  clear HH
  go_wp2_with fail
  have hg1 := gb_alloc hg (.cells #[.int .u8 6, .int .u64 a, .bool i] 51)
  refine (hI.out _ o (hR.alloc _) (hs.grown hg1) (by omega) (by omega)).mono ?_
  rintro e w2 ⟨rfl, hg2, hO⟩
  go_wp2_with fail
  go_end0
  exact ⟨rfl, gb_trans hg1 hg2, hO⟩

set_option maxHeartbeats 400000 in
theorem skip_str (w : World) (b : Nat) (ao : Option Addr) (zs : List Int) (c off : Nat) (m a : Int) (o : Nat) (hZ : Byt zs) (hn : zs.length ≤ 1099511627776) (hnc : zs.length ≤ c) (h : Rd w b ao zs.length c off true) (hs : Src w b ao zs) (hF : headF zs off = some (m, a, false, o))
    (hm : m = 2 ∨ m = 3) :
    Calls Try.prog 25 #[.pointer (some ⟨b, 0, none⟩)] w fun e w' => e = .returned (.tuple #[]) ∧ w.grownBy w' (some b) ∧ Out w' b ao zs.length c (advF zs o a) := by
  obtain ⟨q1, q2, q3, q4, q5, q6⟩ := headF_some hZ hF
  have HA : Hid (∀ W, Rd W b ao zs.length c o true → Calls Try.prog 30 #[.pointer (some ⟨b, 0, none⟩), .int .u64 a] W fun e w' => e = .returned (.tuple #[]) ∧ W.grownBy w' (some b) ∧ Out w' b ao zs.length c (advF zs o a)) := by
    intro W hW
    unfold advF
    by_cases hk : a ≤ (zs.length : Int) - o
    · rw [if_pos hk]
      refine (advance_fits W b ao zs.length c o a hW q2 hn q5 hk).mono ?_
      rintro e w' ⟨he, hr, hg⟩
      exact ⟨he, hg, hr.cast (by omega)⟩
    · rw [if_neg hk]
      refine (advance_over W b ao zs.length c o a hW q2 hn (by omega)).mono ?_
      rintro e w' ⟨he, hr, hg⟩
      exact ⟨he, hg, ⟨_, hr⟩⟩
  have HH : Hid (Calls Try.prog 28 #[.pointer (some ⟨b, 0, none⟩)] w fun e w' => e = .returned (.agg #[.int .u8 m, .int .u64 a, .bool false]) ∧ Rd w' b ao zs.length c o true ∧ w.grownBy w' (some b)) := head_some w b ao zs c off m a false o hZ hn hnc h hs hF
  clear hF
  rcases hm with rfl | rfl
  all_goals
    go_enter Try.func25, Try.ntmps25
    go_wp2_with fail
    refine HH.out.mono ?_
    rintro e w1 ⟨rfl, hR, hg⟩
    clear HH
    go_wp2_with fail
    refine (HA.out _ (hR.alloc _)).mono ?_
    rintro e w2 ⟨rfl, hg2, hO⟩
    go_wp2_with fail
    exact bodyPost_ret (v := .tuple #[]) (by simp [results, Try.results25]) rfl ⟨rfl, gb_trans (gb_alloc hg _) hg2, hO⟩

end Go.Proofs.Qxb6000697a

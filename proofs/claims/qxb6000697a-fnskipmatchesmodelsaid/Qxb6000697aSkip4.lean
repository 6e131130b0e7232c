/- The contract of the method skip, whole. -/
import Derived.Test.Qxb6000697aSkip3
namespace Go.Proofs.Qxb6000697a
open Go.RowKit
set_option linter.unusedVariables false

theorem skip_any (b : Nat) (ao : Option Addr) (zs : List Int) (c : Nat) (hZ : Byt zs) (hn : zs.length ≤ 1099511627776) (hnc : zs.length ≤ c) :
    ∀ (k : Nat) (w : World) (off : Nat), Rd w b ao zs.length c off true → Src w b ao zs → off ≤ zs.length → zs.length < off + k →
    Calls Try.prog 25 #[.pointer (some ⟨b, 0, none⟩)] w fun e w' => e = .returned (.tuple #[]) ∧ w.grownBy w' (some b) ∧ Out w' b ao zs.length c (skipF zs k off) := by
  intro k
  induction k with
  | zero => intro w off h hs ho hk; omega
  | succ k ih =>
    intro w off h hs ho hk
    have hI : Hid (Inner b ao zs c off (skipF zs k)) := fun w o hR hS h1 h2 => ih w o hR hS h2 (by omega)
    have hf : Hid (Goes zs (skipF zs k)) := goes_skip hZ k
    show Calls _ _ _ w fun e w' => e = .returned (.tuple #[]) ∧ w.grownBy w' (some b) ∧ Out w' b ao zs.length c (bodyF zs (skipF zs k) off)
    cases hF : headF zs off with
    | none =>
      have e : bodyF zs (skipF zs k) off = none := by unfold bodyF; rw [hF]
      rw [e]
      exact skip_none w b ao zs c off hZ hn h hs hF
    | some q =>
      obtain ⟨m, a, i, o⟩ := q
      have e : bodyF zs (skipF zs k) off = (if m = 2 ∨ m = 3 then (if i = true then untilF zs (chunkF zs m) (zs.length + 1) o else advF zs o a)
        else if m = 4 then (if i = true then untilF zs (skipF zs k) (zs.length + 1) o else iterF (skipF zs k) a.toNat o)
        else if m = 5 then (if i = true then untilF zs (twoF (skipF zs k)) (zs.length + 1) o else iterF (twoF (skipF zs k)) a.toNat o)
        else if m = 6 then skipF zs k o
        else some o) := by unfold bodyF; rw [hF]
      rw [e]
      have hh := headF_some hZ hF
      by_cases c1 : m = 2 ∨ m = 3
      · rw [if_pos c1]
        cases i with
        | true =>
          rw [if_pos rfl]
          rcases c1 with rfl | rfl
          · exact skip_stri2 w b ao zs c off a o hZ hn hnc h hs hF
          · exact skip_stri3 w b ao zs c off a o hZ hn hnc h hs hF
        | false =>
          rw [if_neg (by simp)]
          exact skip_str w b ao zs c off m a o hZ hn hnc h hs hF c1
      rw [if_neg c1]
      by_cases c2 : m = 4
      · rw [if_pos c2]
        subst c2
        cases i with
        | true => rw [if_pos rfl]; exact skip_arri w b ao zs c off a o _ hZ hn hnc h hs hF hI hf
        | false => rw [if_neg (by simp)]; exact skip_arr w b ao zs c off a o _ hZ hn hnc h hs hF hI hf
      rw [if_neg c2]
      by_cases c3 : m = 5
      · rw [if_pos c3]
        subst c3
        cases i with
        | true => rw [if_pos rfl]; exact skip_mapi w b ao zs c off a o _ hZ hn hnc h hs hF hI hf
        | false => rw [if_neg (by simp)]; exact skip_map w b ao zs c off a o _ hZ hn hnc h hs hF hI hf
      rw [if_neg c3]
      by_cases c4 : m = 6
      · rw [if_pos c4]
        exact skip_tag w b ao zs c off m a i o _ hZ hn hnc h hs hF hI c4
      · rw [if_neg c4]
        exact skip_plain w b ao zs c off m a i o hZ hn hnc h hs hF (by omega)

end Go.Proofs.Qxb6000697a

/- Plain mathematics: past the tags. -/
import Derived.Test.Qxb6000697aSkipF
namespace Go.Proofs.Qxb6000697a
set_option linter.unusedVariables false

/-- The first head that is no tag's. -/
def tagsF (zs : List Int) : Nat → Nat → Option (Int × Int × Bool × Nat)
  | 0, _ => none
  | k + 1, off => match headF zs off with
    | none => none
    | some (m, a, i, o) => if m = 6 then tagsF zs k o else some (m, a, i, o)

/-- Where there is none, skip fails. -/
theorem tagsF_none (zs : List Int) (hZ : Byt zs) : ∀ (k j off : Nat), zs.length < off + k → tagsF zs k off = none → skipF zs j off = none
  | 0, j, off, hk, h => by
    cases j with
    | zero => rfl
    | succ j =>
      show bodyF zs (skipF zs j) off = none
      have : headF zs off = none := by unfold headF; rw [if_pos (by omega)]
      unfold bodyF; rw [this]
  | k + 1, j, off, hk, h => by
    cases j with
    | zero => rfl
    | succ j =>
      show bodyF zs (skipF zs j) off = none
      rw [tagsF] at h
      cases hF : headF zs off with
      | none => unfold bodyF; rw [hF]
      | some q =>
        obtain ⟨m, a, i, o⟩ := q
        rw [hF] at h
        have hh := headF_some hZ hF
        by_cases h6 : m = 6
        · simp only [if_pos h6] at h
          unfold bodyF
          rw [hF]
          simp only
          rw [if_neg (by omega), if_neg (by omega), if_neg (by omega), if_pos h6]
          exact tagsF_none zs hZ k j o (by omega) h
        · simp only [if_neg h6] at h; cases h

theorem tagsF_some (zs : List Int) (hZ : Byt zs) : ∀ (k off : Nat) (m a : Int) (i : Bool) (o : Nat), tagsF zs k off = some (m, a, i, o) → m ≠ 6 ∧ 0 ≤ m ∧ m ≤ 7
  | 0, off, m, a, i, o, h => by simp [tagsF] at h
  | k + 1, off, m, a, i, o, h => by
    rw [tagsF] at h
    cases hF : headF zs off with
    | none => rw [hF] at h; cases h
    | some q =>
      obtain ⟨m', a', i', o'⟩ := q
      rw [hF] at h
      have hh := headF_some hZ hF
      by_cases h6 : m' = 6
      · simp only [if_pos h6] at h; exact tagsF_some zs hZ k o' m a i o h
      · simp only [if_neg h6] at h
        simp only [Option.some.injEq, Prod.mk.injEq] at h
        obtain ⟨rfl, rfl, rfl, rfl⟩ := h
        exact ⟨h6, hh.2.2.1, hh.2.2.2.1⟩

end Go.Proofs.Qxb6000697a

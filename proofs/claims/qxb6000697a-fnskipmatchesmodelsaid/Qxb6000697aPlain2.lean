/- Plain mathematics: a head that was cut. -/
import Derived.Test.Qxb6000697aPlain
namespace Go.Proofs.Qxb6000697a

theorem maskF_bd (a w : Int) (h0 : 0 ≤ a) (h1 : a ≤ 18446744073709551615) : 0 ≤ maskF a w ∧ maskF a w ≤ 18446744073709551615 := by
  unfold maskF; split <;> (try split) <;> (try split) <;> (try split) <;> omega

/-- A head with an argument of its own bytes, cut short: nothing can be read. -/
theorem headF_cut (m w : Int) (n : Nat) (T : List Int) (hT : T.length = n) (hw : (w = 1 ∧ n = 1) ∨ (w = 2 ∧ n = 2) ∨ (w = 3 ∧ n = 4) ∨ (w = 4 ∧ n = 8)) (k : Nat) (hk : k < 1 + n) :
    headF (((m * 32 + (23 + w)) :: T).take k) 0 = none := by
  unfold headF
  have hl : (((m * 32 + (23 + w)) :: T).take k).length = k := by simp; omega
  rw [hl]
  by_cases h0 : k ≤ 0
  · rw [if_pos h0]
  rw [if_neg h0]
  obtain ⟨j, rfl⟩ : ∃ j, k = j + 1 := ⟨k - 1, by omega⟩
  have hz : (((m * 32 + (23 + w)) :: T).take (j + 1)).getD 0 0 = m * 32 + (23 + w) := by simp
  rw [hz, if_neg (by omega), if_pos (by omega)]
  have hs := szF_of (m * 32 + (23 + w)) (by omega) (by omega)
  rw [if_pos (by omega)]

end Go.Proofs.Qxb6000697a

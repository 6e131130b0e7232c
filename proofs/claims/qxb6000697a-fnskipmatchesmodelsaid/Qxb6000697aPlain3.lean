/- Plain mathematics: the head's bytes read back as the head. -/
import Derived.Test.Qxb6000697aPlain2
namespace Go.Proofs.Qxb6000697a

def valB (l : List Int) : Int := l.foldl (fun x b => x * 256 + b) 0
theorem valB_snoc (l : List Int) (b : Int) : valB (l ++ [b]) = valB l * 256 + b := by simp [valB]

theorem valB_beB : ∀ (n : Nat) (a : Int), 0 ≤ a → a < 256 ^ n → valB (beB n a) = a
  | 0, a, h0, h1 => by simp [beB, valB]; simp at h1; omega
  | n + 1, a, h0, h1 => by
    rw [beB, valB_snoc, valB_beB n (a / 256) (by omega) (by rw [Int.pow_succ] at h1; omega)]
    omega

theorem take_next (l : List Int) (k : Nat) (h : k < l.length) : l.take (k + 1) = l.take k ++ [l.getD k 0] := by
  rw [List.take_succ_eq_append_getElem h]; simp [List.getD, h]

theorem getD_drop (zs : List Int) (p k : Nat) : (zs.drop p).getD k 0 = zs.getD (p + k) 0 := by simp [List.getD]

theorem beAt_valB (zs : List Int) (p : Nat) : ∀ k, p + k ≤ zs.length → beAt zs p k = valB ((zs.drop p).take k)
  | 0, _ => by simp [beAt, valB]
  | k + 1, h => by
    rw [beAt, beAt_valB zs p k (by omega), take_next _ _ (by simp; omega), valB_snoc, getD_drop]

theorem getD_mid (P X S : List Int) (z : Int) : (P ++ ((z :: X) ++ S)).getD P.length 0 = z := by simp [List.getD]

/-- THE PLAIN LAW: a head, set between any two runs of bytes, reads back. -/
theorem headF_enc (P S : List Int) (m a w : Int) (hw0 : 0 ≤ w) (hw1 : w ≤ 4) (ha0 : 0 ≤ a) (hsm : w = 0 → a < 24) (hfit : ¬ w = 0 → a < 256 ^ argN w) :
    headF (P ++ (encF m a w ++ S)) P.length = some (m, a, false, P.length + (encF m a w).length) := by
  by_cases hw : w = 0
  · have ha := hsm hw
    have e : encF m a w = [m * 32 + a] := by rw [encF, if_pos hw]
    rw [e]
    unfold headF
    rw [if_neg (by simp), getD_mid, if_pos (by omega)]
    simp only [List.length_cons, List.length_nil, Option.some.injEq, Prod.mk.injEq, and_true]
    omega
  · have hf := hfit hw
    have e : encF m a w = (m * 32 + (23 + w)) :: beB (argN w) a := by rw [encF, if_neg hw]
    have hz : szF (m * 32 + (23 + w)) = argN w := by
      rcases (show w = 1 ∨ w = 2 ∨ w = 3 ∨ w = 4 by omega) with rfl | rfl | rfl | rfl
      · simp only [szF, argN]; rw [if_pos (by omega)]; rfl
      · simp only [szF, argN]; rw [if_neg (by omega), if_pos (by omega)]; rfl
      · simp only [szF, argN]; rw [if_neg (by omega), if_neg (by omega), if_pos (by omega)]; rfl
      · simp only [szF, argN]; rw [if_neg (by omega), if_neg (by omega), if_neg (by omega)]; rfl
    rw [e]
    have hl : (P ++ (((m * 32 + (23 + w)) :: beB (argN w) a) ++ S)).length = P.length + (1 + argN w) + S.length := by simp [beB_len]; omega
    unfold headF
    rw [hl, if_neg (by omega), getD_mid, if_neg (by omega), if_pos (by omega), hz, if_neg (by omega), beAt_valB _ _ _ (by rw [hl]; omega)]
    have hd : ((P ++ (((m * 32 + (23 + w)) :: beB (argN w) a) ++ S)).drop (P.length + 1)).take (argN w) = beB (argN w) a := by
      have e1 : P ++ (((m * 32 + (23 + w)) :: beB (argN w) a) ++ S) = (P ++ [m * 32 + (23 + w)]) ++ (beB (argN w) a ++ S) := by simp
      rw [e1, List.drop_left' (by simp), List.take_left' (beB_len _ _)]
    rw [hd, valB_beB _ _ ha0 hf]
    simp only [List.length_cons, beB_len, Option.some.injEq, Prod.mk.injEq, true_and]
    omega

theorem maskF_sm (a w : Int) : w = 0 → maskF a w < 24 := by intro h; rw [maskF, if_pos h]; omega
theorem maskF_fit (a w : Int) (h0 : 0 ≤ a) (h1 : a ≤ 18446744073709551615) (hw0 : 0 ≤ w) (hw1 : w ≤ 4) : ¬ w = 0 → maskF a w < 256 ^ argN w := by
  intro h
  rcases (show w = 1 ∨ w = 2 ∨ w = 3 ∨ w = 4 by omega) with rfl | rfl | rfl | rfl <;> simp [maskF, argN] <;> omega

theorem encF_len (m a w : Int) : (encF m a w).length ≤ 9 := by
  unfold encF
  split
  · simp
  · simp [beB_len, argN]; split <;> (try split) <;> (try split) <;> (try split) <;> omega

theorem encF_mem (m a w : Int) (hm0 : 0 ≤ m) (hm1 : m ≤ 7) (hw0 : 0 ≤ w) (hw1 : w ≤ 4) (ha0 : 0 ≤ a) (hsm : w = 0 → a < 24) : ∀ z ∈ encF m a w, 0 ≤ z ∧ z ≤ 255 := by
  intro z hz
  by_cases hw : w = 0
  · have := hsm hw
    rw [encF, if_pos hw, List.mem_singleton] at hz; omega
  · rw [encF, if_neg hw, List.mem_cons] at hz
    rcases hz with rfl | hz
    · omega
    · have aux : ∀ (n : Nat) (a : Int), ∀ z ∈ beB n a, 0 ≤ z ∧ z ≤ 255 := by
        intro n
        induction n with
        | zero => intro a z hz; simp [beB] at hz
        | succ n ih =>
          intro a z hz
          rw [beB, List.mem_append, List.mem_singleton] at hz
          rcases hz with hz | rfl
          · exact ih _ z hz
          · omega
      exact aux _ _ z hz

end Go.Proofs.Qxb6000697a

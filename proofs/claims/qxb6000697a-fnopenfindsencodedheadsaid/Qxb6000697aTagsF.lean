/- Plain mathematics: a head behind a run of tags. -/
import Derived.Test.Qxb6000697aOpenF
import Derived.Test.Qxb6000697aPlain3
namespace Go.Proofs.Qxb6000697a
set_option linter.unusedVariables false

/-- The bytes of a run of tags (tag, width). -/
def tagB : List (Int × Int) → List Int
  | [] => []
  | (t, w) :: L => encF 6 (maskF t w) w ++ tagB L

def TagOk (x : Int × Int) : Prop := 0 ≤ x.1 ∧ x.1 ≤ 18446744073709551615 ∧ 0 ≤ x.2 ∧ x.2 ≤ 4

theorem encF_pos (m a w : Int) : 1 ≤ (encF m a w).length := by
  unfold encF; split <;> simp

theorem tagB_len : ∀ L : List (Int × Int), L.length ≤ (tagB L).length ∧ (tagB L).length ≤ 9 * L.length
  | [] => by simp [tagB]
  | (t, w) :: L => by
    have ih := tagB_len L
    have h1 := encF_len 6 (maskF t w) w
    have h2 := encF_pos 6 (maskF t w) w
    simp only [tagB, List.length_append, List.length_cons]
    omega

theorem tagB_snoc : ∀ (L : List (Int × Int)) (t w : Int), tagB (L ++ [(t, w)]) = tagB L ++ encF 6 (maskF t w) w
  | [], t, w => by simp [tagB]
  | (t', w') :: L, t, w => by simp [tagB, tagB_snoc L t w]

theorem tagB_mem : ∀ (L : List (Int × Int)), (∀ x ∈ L, TagOk x) → ∀ z ∈ tagB L, 0 ≤ z ∧ z ≤ 255
  | [], h, z, hz => by simp [tagB] at hz
  | (t, w) :: L, h, z, hz => by
    obtain ⟨h0, h1, h2, h3⟩ := h (t, w) (List.mem_cons_self)
    rw [tagB, List.mem_append] at hz
    rcases hz with hz | hz
    · exact encF_mem 6 (maskF t w) w (by omega) (by omega) h2 h3 (maskF_bd t w h0 h1).1 (maskF_sm t w) z hz
    · exact tagB_mem L (fun x hx => h x (List.mem_cons_of_mem _ hx)) z hz

/-- THE PLAIN LAW: past the tags stands the head. -/
theorem tagsF_enc (m a w : Int) (hm : m ≠ 6) (hw0 : 0 ≤ w) (hw1 : w ≤ 4) (ha0 : 0 ≤ a) (hsm : w = 0 → a < 24) (hfit : ¬ w = 0 → a < 256 ^ argN w) (S : List Int) :
    ∀ (L : List (Int × Int)) (P : List Int) (k : Nat), (∀ x ∈ L, TagOk x) → L.length < k →
      tagsF (P ++ (tagB L ++ (encF m a w ++ S))) k P.length = some (m, a, false, P.length + (tagB L).length + (encF m a w).length)
  | [], P, k, h, hk => by
    obtain ⟨j, rfl⟩ : ∃ j, k = j + 1 := ⟨k - 1, by omega⟩
    simp only [tagB, List.nil_append, List.length_nil]
    rw [tagsF, headF_enc P S m a w hw0 hw1 ha0 hsm hfit]
    simp only [if_neg hm, Nat.add_zero]
  | (t, u) :: L, P, k, h, hk => by
    obtain ⟨j, rfl⟩ : ∃ j, k = j + 1 := ⟨k - 1, by omega⟩
    obtain ⟨h0, h1, h2, h3⟩ := h (t, u) (List.mem_cons_self)
    have e : P ++ (tagB ((t, u) :: L) ++ (encF m a w ++ S)) = P ++ (encF 6 (maskF t u) u ++ (tagB L ++ (encF m a w ++ S))) := by simp [tagB]
    rw [e, tagsF, headF_enc P _ 6 (maskF t u) u h2 h3 (maskF_bd t u h0 h1).1 (maskF_sm t u) (maskF_fit t u h0 h1 h2 h3)]
    simp only [if_true]
    have ih := tagsF_enc m a w hm hw0 hw1 ha0 hsm hfit S L (P ++ encF 6 (maskF t u) u) j (fun x hx => h x (List.mem_cons_of_mem _ hx)) (by simp at hk; omega)
    rw [List.append_assoc, List.length_append] at ih
    rw [ih]
    simp [tagB]; omega

end Go.Proofs.Qxb6000697a

/- ZZHead where the head can be read; zzEncodeHead at whatever width. -/
import Derived.Test.Qxb6000697aHead4
import Derived.Test.Qxb6000697aPlain3
namespace Go.Proofs.Qxb6000697a
open Go.RowKit

theorem zzhead_some (w : World) (ao : Option Addr) (zs : List Int) (c off : Nat) (m a : Int) (i : Bool) (o : Nat) (hZ : Byt zs) (hn : zs.length ≤ 1099511627776) (hnc : zs.length ≤ c) (hs : zs.length = 0 ∨ ∃ g, ao = some ⟨g, 0, none⟩ ∧ Bts w g zs) (hF : headF zs off = some (m, a, i, o)) :
    Calls Try.prog 20 #[.slice ao zs.length c, .int .i64 off, .bool true] w fun e w' => e = .returned (.tuple #[.int .u8 m, .int .u64 a, .bool i, .int .i64 o, .bool true]) ∧ Below w.heap.size w w' := by
  have hsrc : Src (w.alloc (.cells #[.slice ao zs.length c, .int .i64 off, .bool true] 44)) w.heap.size ao zs := by
    by_cases h0 : zs.length = 0
    · exact Or.inl h0
    · rcases hs with h | ⟨g, e, hB⟩
      · exact absurd h h0
      · exact Or.inr ⟨g, e, by have := hB.lt (by omega); omega, hB.grown (World.grownBy_alloc w _ none) (by simp)⟩
  refine (zzhead_of w ao zs.length c off m a i true (fun x => x = (o : Int)) ((head_some _ _ _ _ _ _ m a i o hZ hn hnc (Rd.born w ao zs.length c off true) hsrc hF).mono ?_)).mono ?_
  · rintro e w' ⟨he, hR, hg⟩
    exact ⟨o, rfl, he, hR, hg⟩
  · rintro e w' ⟨x, hx, he, hb⟩
    rw [hx] at he
    exact ⟨he, hb⟩

theorem enc_any (m a w : Int) (hm0 : 0 ≤ m) (hm1 : m ≤ 7) (hw0 : 0 ≤ w) (hw1 : w ≤ 4) (h0 : 0 ≤ a) (h1 : a ≤ 18446744073709551615) (hsm : w = 0 → a < 24) (W : World) :
    Calls Try.prog 19 #[.int .u8 m, .int .u64 a, .int .u8 w] W fun e w' => e = .returned (.slice (some ⟨W.heap.size, 0, none⟩) (encF m a w).length (encF m a w).length) ∧ Below W.heap.size W w' ∧
      w'.ownsRow W.heap.size 5 1 (.slice (some ⟨W.heap.size, 0, none⟩) (encF m a w).length (encF m a w).length) (encF m a w).length ((encF m a w).map (Value.int .u8)) := by
  by_cases hw : w = 0
  · subst hw
    have e : encF m a 0 = [m * 32 + a] := by rw [encF, if_pos rfl]
    rw [e]
    exact enc_zero m a h0 (hsm rfl) hm0 hm1 W
  · have e : encF m a w = (m * 32 + (23 + w)) :: beB (argN w) a := by rw [encF, if_neg hw]
    have hl : (encF m a w).length = 1 + argN w := by rw [e]; simp [beB_len]; omega
    rw [hl, e]
    refine enc_some m a w (argN w) ?_ h0 h1 hm0 hm1 W
    rcases (show w = 1 ∨ w = 2 ∨ w = 3 ∨ w = 4 by omega) with rfl | rfl | rfl | rfl <;> simp [argN]

end Go.Proofs.Qxb6000697a

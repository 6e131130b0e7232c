/- Plain mathematics: reading one item whole. -/
import Derived.Test.Qxb6000697aPlain
namespace Go.Proofs.Qxb6000697a
set_option linter.unusedVariables false

/-- n items behind one another. -/
def iterF (f : Nat → Option Nat) : Nat → Nat → Option Nat
  | 0, o => some o
  | n + 1, o => match f o with
    | none => none
    | some o' => iterF f n o'

/-- Items up to the stop code. -/
def untilF (zs : List Int) (f : Nat → Option Nat) : Nat → Nat → Option Nat
  | 0, _ => none
  | k + 1, o => if o < zs.length ∧ zs.getD o 0 = 255 then some (o + 1) else match f o with
    | none => none
    | some o' => untilF zs f k o'

def twoF (f : Nat → Option Nat) (o : Nat) : Option Nat := match f o with
  | none => none
  | some o' => f o'

def advF (zs : List Int) (o : Nat) (a : Int) : Option Nat := if a ≤ (zs.length : Int) - o then some (o + a.toNat) else none

def chunkF (zs : List Int) (m : Int) (o : Nat) : Option Nat := match headF zs o with
  | none => none
  | some (m', a, i, o') => if m' = m ∧ i = false then advF zs o' a else none

/-- One item whole, f reading the items inside it. -/
def bodyF (zs : List Int) (f : Nat → Option Nat) (o : Nat) : Option Nat := match headF zs o with
  | none => none
  | some (m, a, i, o') =>
    if m = 2 ∨ m = 3 then (if i = true then untilF zs (chunkF zs m) (zs.length + 1) o' else advF zs o' a)
    else if m = 4 then (if i = true then untilF zs f (zs.length + 1) o' else iterF f a.toNat o')
    else if m = 5 then (if i = true then untilF zs (twoF f) (zs.length + 1) o' else iterF (twoF f) a.toNat o')
    else if m = 6 then f o'
    else some o'

def skipF (zs : List Int) : Nat → Nat → Option Nat
  | 0 => fun _ => none
  | k + 1 => bodyF zs (skipF zs k)

/-- f moves on, and stays inside. -/
def Goes (zs : List Int) (f : Nat → Option Nat) : Prop := ∀ o o', f o = some o' → o < o' ∧ o' ≤ zs.length

theorem goes_two {zs : List Int} {f : Nat → Option Nat} (h : Goes zs f) : Goes zs (twoF f) := by
  intro o o' e
  unfold twoF at e
  cases h1 : f o with
  | none => rw [h1] at e; cases e
  | some x => rw [h1] at e; have a := h o x h1; have b := h x o' e; omega

theorem iterF_goes {zs : List Int} {f : Nat → Option Nat} (h : Goes zs f) : ∀ n o o', o ≤ zs.length → iterF f n o = some o' → o ≤ o' ∧ o' ≤ zs.length
  | 0, o, o', ho, e => by simp [iterF] at e; omega
  | n + 1, o, o', ho, e => by
    rw [iterF] at e
    cases h1 : f o with
    | none => rw [h1] at e; cases e
    | some x => rw [h1] at e; have a := h o x h1; have b := iterF_goes h n x o' a.2 e; omega

theorem untilF_goes {zs : List Int} {f : Nat → Option Nat} (h : Goes zs f) : ∀ n o o', untilF zs f n o = some o' → o < o' ∧ o' ≤ zs.length
  | 0, o, o', e => by simp [untilF] at e
  | n + 1, o, o', e => by
    rw [untilF] at e
    by_cases hs : o < zs.length ∧ zs.getD o 0 = 255
    · rw [if_pos hs] at e; simp at e; omega
    · rw [if_neg hs] at e
      cases h1 : f o with
      | none => rw [h1] at e; cases e
      | some x => rw [h1] at e; have a := h o x h1; have b := untilF_goes h n x o' e; omega

theorem advF_goes {zs : List Int} {o : Nat} {a : Int} {o' : Nat} (ho : o ≤ zs.length) (ha : 0 ≤ a) (e : advF zs o a = some o') : o ≤ o' ∧ o' ≤ zs.length := by
  unfold advF at e
  by_cases h : a ≤ (zs.length : Int) - o
  · rw [if_pos h] at e; simp at e; omega
  · rw [if_neg h] at e; cases e

theorem goes_chunk {zs : List Int} (hZ : Byt zs) (m : Int) : Goes zs (chunkF zs m) := by
  intro o o' e
  unfold chunkF at e
  cases h1 : headF zs o with
  | none => rw [h1] at e; cases e
  | some q =>
    obtain ⟨m', a, i, x⟩ := q
    rw [h1] at e
    have hh := headF_some hZ h1
    by_cases hc : m' = m ∧ i = false
    · simp only [if_pos hc] at e; have := advF_goes hh.2.1 hh.2.2.2.2.1 e; omega
    · simp only [if_neg hc] at e; cases e

theorem goes_body {zs : List Int} (hZ : Byt zs) {f : Nat → Option Nat} (h : Goes zs f) : Goes zs (bodyF zs f) := by
  intro o o' e
  unfold bodyF at e
  cases h1 : headF zs o with
  | none => rw [h1] at e; cases e
  | some q =>
    obtain ⟨m, a, i, x⟩ := q
    rw [h1] at e
    have hh := headF_some hZ h1
    simp only at e
    by_cases c1 : m = 2 ∨ m = 3
    · rw [if_pos c1] at e
      cases i with
      | true => simp only [if_true] at e; have := untilF_goes (goes_chunk hZ m) _ _ _ e; omega
      | false => simp only [Bool.false_eq_true, if_false] at e; have := advF_goes hh.2.1 hh.2.2.2.2.1 e; omega
    rw [if_neg c1] at e
    by_cases c2 : m = 4
    · rw [if_pos c2] at e
      cases i with
      | true => simp only [if_true] at e; have := untilF_goes h _ _ _ e; omega
      | false => simp only [Bool.false_eq_true, if_false] at e; have := iterF_goes h _ _ _ hh.2.1 e; omega
    rw [if_neg c2] at e
    by_cases c3 : m = 5
    · rw [if_pos c3] at e
      cases i with
      | true => simp only [if_true] at e; have := untilF_goes (goes_two h) _ _ _ e; omega
      | false => simp only [Bool.false_eq_true, if_false] at e; have := iterF_goes (goes_two h) _ _ _ hh.2.1 e; omega
    rw [if_neg c3] at e
    by_cases c4 : m = 6
    · rw [if_pos c4] at e; have := h _ _ e; omega
    · rw [if_neg c4] at e; simp at e; omega

theorem goes_skip {zs : List Int} (hZ : Byt zs) : ∀ k, Goes zs (skipF zs k)
  | 0 => by intro o o' e; simp [skipF] at e
  | k + 1 => goes_body hZ (goes_skip hZ k)

end Go.Proofs.Qxb6000697a

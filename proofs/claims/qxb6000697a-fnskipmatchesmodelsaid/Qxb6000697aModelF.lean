/- Plain mathematics: the reader with a stack of its own reads what the recursive reader reads. -/
import Derived.Test.Qxb6000697aSkipF
namespace Go.Proofs.Qxb6000697a
set_option linter.unusedVariables false

theorem headF_end {zs : List Int} {o : Nat} (h : zs.length ≤ o) : headF zs o = none := by unfold headF; rw [if_pos h]

/-! ### Enough fuel is enough -/
theorem untilF_fuel {zs : List Int} {f g : Nat → Option Nat} (hf : Goes zs f) (lo : Nat) (hfg : ∀ o, lo ≤ o → o ≤ zs.length → f o = g o) :
    ∀ (k k' o : Nat), lo ≤ o → o ≤ zs.length → zs.length < o + k → zs.length < o + k' → untilF zs f k o = untilF zs g k' o
  | 0, k', o, h1, h2, h3, h4 => by omega
  | k + 1, 0, o, h1, h2, h3, h4 => by omega
  | k + 1, k' + 1, o, h1, h2, h3, h4 => by
    rw [untilF, untilF]
    by_cases hs : o < zs.length ∧ zs.getD o 0 = 255
    · rw [if_pos hs, if_pos hs]
    · rw [if_neg hs, if_neg hs, ← hfg o h1 h2]
      cases hfo : f o with
      | none => rfl
      | some o' =>
        have hg := hf o o' hfo
        exact untilF_fuel hf lo hfg k k' o' (by omega) hg.2 (by omega) (by omega)

theorem iterF_congr {zs : List Int} {f g : Nat → Option Nat} (hf : Goes zs f) (lo : Nat) (hfg : ∀ o, lo ≤ o → o ≤ zs.length → f o = g o) :
    ∀ (n o : Nat), lo ≤ o → o ≤ zs.length → iterF f n o = iterF g n o
  | 0, o, _, _ => rfl
  | n + 1, o, h1, h2 => by
    rw [iterF, iterF, ← hfg o h1 h2]
    cases hfo : f o with
    | none => rfl
    | some o' =>
      have hg := hf o o' hfo
      exact iterF_congr hf lo hfg n o' (by omega) hg.2

theorem twoF_congr {zs : List Int} {f g : Nat → Option Nat} (hf : Goes zs f) (lo : Nat) (hfg : ∀ o, lo ≤ o → o ≤ zs.length → f o = g o) :
    ∀ o, lo ≤ o → o ≤ zs.length → twoF f o = twoF g o := by
  intro o h1 h2
  unfold twoF
  rw [← hfg o h1 h2]
  cases hfo : f o with
  | none => rfl
  | some o' => have hg := hf o o' hfo; exact hfg o' (by omega) hg.2

theorem bodyF_congr {zs : List Int} (hZ : Byt zs) {f g : Nat → Option Nat} (hf : Goes zs f) (lo : Nat) (hfg : ∀ o, lo < o → o ≤ zs.length → f o = g o) : bodyF zs f lo = bodyF zs g lo := by
  unfold bodyF
  cases hF : headF zs lo with
  | none => rfl
  | some q =>
    obtain ⟨m, a, i, o⟩ := q
    have hh := headF_some hZ hF
    have hfg' : ∀ x, o ≤ x → x ≤ zs.length → f x = g x := fun x h1 h2 => hfg x (by omega) h2
    simp only
    rw [untilF_fuel hf o hfg' (zs.length + 1) (zs.length + 1) o (by omega) hh.2.1 (by omega) (by omega), iterF_congr hf o hfg' _ o (by omega) hh.2.1,
      untilF_fuel (goes_two hf) o (twoF_congr hf o hfg') (zs.length + 1) (zs.length + 1) o (by omega) hh.2.1 (by omega) (by omega), iterF_congr (goes_two hf) o (twoF_congr hf o hfg') _ o (by omega) hh.2.1, hfg' o (by omega) hh.2.1]

theorem skipF_fuel {zs : List Int} (hZ : Byt zs) : ∀ (k k' o : Nat), o ≤ zs.length → zs.length < o + k → zs.length < o + k' → skipF zs k o = skipF zs k' o
  | 0, k', o, h1, h2, h3 => by omega
  | k + 1, 0, o, h1, h2, h3 => by omega
  | k + 1, k' + 1, o, h1, h2, h3 => by
    show bodyF zs (skipF zs k) o = bodyF zs (skipF zs k') o
    exact bodyF_congr hZ (goes_skip hZ k) o (fun x hx1 hx2 => skipF_fuel hZ k k' x hx2 (by omega) (by omega))

/-- One item whole, from place o. -/
def itemF (zs : List Int) (o : Nat) : Option Nat := skipF zs (zs.length + 1) o
theorem itemF_goes {zs : List Int} (hZ : Byt zs) : Goes zs (itemF zs) := goes_skip hZ _
theorem itemF_eq {zs : List Int} (hZ : Byt zs) (o : Nat) (ho : o ≤ zs.length) : itemF zs o = bodyF zs (itemF zs) o := by
  show bodyF zs (skipF zs zs.length) o = bodyF zs (skipF zs (zs.length + 1)) o
  exact bodyF_congr hZ (goes_skip hZ _) o (fun x hx1 hx2 => skipF_fuel hZ _ _ x hx2 (by omega) (by omega))

/-- Up to the stop code. -/
def stopF (zs : List Int) (f : Nat → Option Nat) (o : Nat) : Option Nat := untilF zs f (zs.length + 1) o
theorem stopF_eq {zs : List Int} {f : Nat → Option Nat} (hf : Goes zs f) (o : Nat) (ho : o ≤ zs.length) :
    stopF zs f o = if o < zs.length ∧ zs.getD o 0 = 255 then some (o + 1) else match f o with
      | none => none
      | some o' => stopF zs f o' := by
  show untilF zs f (zs.length + 1) o = _
  rw [untilF]
  by_cases hs : o < zs.length ∧ zs.getD o 0 = 255
  · rw [if_pos hs, if_pos hs]
  · rw [if_neg hs, if_neg hs]
    cases hfo : f o with
    | none => rfl
    | some o' =>
      have hg := hf o o' hfo
      exact untilF_fuel hf 0 (fun _ _ _ => rfl) _ _ o' (by omega) hg.2 (by omega) (by omega)

/-! ### What a stack of open containers leaves to do -/
/-- (kind, left, odd, major). -/
abbrev Fr := Int × Int × Bool × Int

def frF (zs : List Int) : Fr → Nat → Option Nat
  | (k, l, od, mj), p =>
    if k = 1 then iterF (itemF zs) l.toNat p
    else if k = 2 then (if od = true then (match itemF zs p with | none => none | some p' => iterF (twoF (itemF zs)) l.toNat p') else iterF (twoF (itemF zs)) l.toNat p)
    else if k = 3 then stopF zs (itemF zs) p
    else if k = 4 then (if od = true then (match itemF zs p with | none => none | some p' => stopF zs (twoF (itemF zs)) p') else stopF zs (twoF (itemF zs)) p)
    else stopF zs (chunkF zs mj) p

def denF (zs : List Int) : List Fr → Nat → Option Nat
  | [], p => some p
  | x :: S, p => match frF zs x p with
    | none => none
    | some p' => denF zs S p'

/-- An item, then what the stack leaves. -/
def thenF' (zs : List Int) (S : List Fr) (r : Option Nat) : Option Nat := match r with
  | none => none
  | some p => denF zs S p

/-! ### The first half of a round -/
theorem den_arr0 (zs : List Int) (od : Bool) (mj : Int) (S : List Fr) (p : Nat) : denF zs ((1, 0, od, mj) :: S) p = denF zs S p := by simp [denF, frF, iterF]

theorem den_arr (zs : List Int) (l : Nat) (od : Bool) (mj : Int) (S : List Fr) (p : Nat) : denF zs ((1, (l : Int) + 1, od, mj) :: S) p = thenF' zs ((1, (l : Int), od, mj) :: S) (itemF zs p) := by
  have e : ((l : Int) + 1).toNat = l + 1 := by omega
  simp only [denF, frF, if_true, e, iterF, thenF', Int.toNat_natCast]
  cases itemF zs p <;> rfl

theorem den_map0 (zs : List Int) (mj : Int) (S : List Fr) (p : Nat) : denF zs ((2, 0, false, mj) :: S) p = denF zs S p := by simp [denF, frF, iterF]

theorem den_map (zs : List Int) (l : Nat) (mj : Int) (S : List Fr) (p : Nat) : denF zs ((2, (l : Int) + 1, false, mj) :: S) p = thenF' zs ((2, (l : Int), true, mj) :: S) (itemF zs p) := by
  have e : ((l : Int) + 1).toNat = l + 1 := by omega
  simp only [denF, frF, e, iterF, thenF', Int.toNat_natCast, twoF]
  cases h1 : itemF zs p with
  | none => simp
  | some p1 =>
    cases h2 : itemF zs p1 <;> simp [h2]

theorem den_mapodd (zs : List Int) (l mj : Int) (S : List Fr) (p : Nat) : denF zs ((2, l, true, mj) :: S) p = thenF' zs ((2, l, false, mj) :: S) (itemF zs p) := by
  simp only [denF, frF, thenF']
  cases h1 : itemF zs p <;> simp

theorem den_arri_stop {zs : List Int} (hZ : Byt zs) (l : Int) (od : Bool) (mj : Int) (S : List Fr) (p : Nat) (hp : p < zs.length ∧ zs.getD p 0 = 255) : denF zs ((3, l, od, mj) :: S) p = denF zs S (p + 1) := by
  simp only [denF, frF]
  rw [if_neg (by decide), if_neg (by decide), if_pos (by decide), stopF_eq (itemF_goes hZ) p (by omega), if_pos hp]

theorem den_arri {zs : List Int} (hZ : Byt zs) (l : Int) (od : Bool) (mj : Int) (S : List Fr) (p : Nat) (hl : p ≤ zs.length) (hp : ¬ (p < zs.length ∧ zs.getD p 0 = 255)) : denF zs ((3, l, od, mj) :: S) p = thenF' zs ((3, l, od, mj) :: S) (itemF zs p) := by
  have e : frF zs (3, l, od, mj) p = match itemF zs p with
      | none => none
      | some o' => frF zs (3, l, od, mj) o' := by
    simp only [frF]
    rw [if_neg (by decide), if_neg (by decide), if_pos (by decide), stopF_eq (itemF_goes hZ) p hl, if_neg hp]
    cases itemF zs p with
    | none => rfl
    | some o' => simp only []; rw [if_neg (by decide), if_neg (by decide), if_pos (by decide)]
  rw [denF, e]
  cases itemF zs p <;> rfl

theorem den_mapi_stop {zs : List Int} (hZ : Byt zs) (l mj : Int) (S : List Fr) (p : Nat) (hp : p < zs.length ∧ zs.getD p 0 = 255) : denF zs ((4, l, false, mj) :: S) p = denF zs S (p + 1) := by
  simp only [denF, frF]
  rw [if_neg (by decide), if_neg (by decide), if_neg (by decide), if_pos (by decide), if_neg (by decide), stopF_eq (goes_two (itemF_goes hZ)) p (by omega), if_pos hp]

theorem den_mapi {zs : List Int} (hZ : Byt zs) (l mj : Int) (S : List Fr) (p : Nat) (hl : p ≤ zs.length) (hp : ¬ (p < zs.length ∧ zs.getD p 0 = 255)) : denF zs ((4, l, false, mj) :: S) p = thenF' zs ((4, l, true, mj) :: S) (itemF zs p) := by
  simp only [denF, frF, thenF']
  rw [if_neg (by decide), if_neg (by decide), if_neg (by decide), if_pos (by decide), if_neg (by decide), stopF_eq (goes_two (itemF_goes hZ)) p hl, if_neg hp]
  unfold twoF
  cases h1 : itemF zs p with
  | none => rfl
  | some p1 =>
    simp only []
    rw [if_neg (by decide), if_neg (by decide), if_neg (by decide), if_pos (by decide), if_pos trivial]

theorem den_mapiodd (zs : List Int) (l mj : Int) (S : List Fr) (p : Nat) : denF zs ((4, l, true, mj) :: S) p = thenF' zs ((4, l, false, mj) :: S) (itemF zs p) := by
  simp only [denF, frF, thenF']
  cases h1 : itemF zs p <;> simp

theorem den_str_stop {zs : List Int} (hZ : Byt zs) (l : Int) (od : Bool) (mj : Int) (S : List Fr) (p : Nat) (hp : p < zs.length ∧ zs.getD p 0 = 255) : denF zs ((5, l, od, mj) :: S) p = denF zs S (p + 1) := by
  simp only [denF, frF]
  rw [if_neg (by decide), if_neg (by decide), if_neg (by decide), if_neg (by decide), stopF_eq (goes_chunk hZ mj) p (by omega), if_pos hp]

theorem den_str {zs : List Int} (hZ : Byt zs) (l : Int) (od : Bool) (mj : Int) (S : List Fr) (p : Nat) (hl : p ≤ zs.length) (hp : ¬ (p < zs.length ∧ zs.getD p 0 = 255)) : denF zs ((5, l, od, mj) :: S) p = thenF' zs ((5, l, od, mj) :: S) (chunkF zs mj p) := by
  have e : frF zs (5, l, od, mj) p = match chunkF zs mj p with
      | none => none
      | some o' => frF zs (5, l, od, mj) o' := by
    simp only [frF]
    rw [if_neg (by decide), if_neg (by decide), if_neg (by decide), if_neg (by decide), stopF_eq (goes_chunk hZ mj) p hl, if_neg hp]
    cases chunkF zs mj p with
    | none => rfl
    | some o' => simp only []; rw [if_neg (by decide), if_neg (by decide), if_neg (by decide), if_neg (by decide)]
  rw [denF, e]
  cases chunkF zs mj p <;> rfl

/-! ### The second half -/
/-- What is left behind a head that is no tag's. -/
def restF (zs : List Int) (S : List Fr) (m a : Int) (i : Bool) (o : Nat) : Option Nat :=
  if m = 2 ∨ m = 3 then (if i = true then denF zs ((5, 0, false, m) :: S) o else thenF' zs S (advF zs o a))
  else if m = 4 then (if i = true then denF zs ((3, 0, false, 0) :: S) o else denF zs ((1, a, false, 0) :: S) o)
  else if m = 5 then (if i = true then denF zs ((4, 0, false, 0) :: S) o else denF zs ((2, a, false, 0) :: S) o)
  else denF zs S o

theorem then_none {zs : List Int} (hZ : Byt zs) (S : List Fr) (p : Nat) (hp : p ≤ zs.length) (hF : headF zs p = none) : thenF' zs S (itemF zs p) = none := by
  rw [itemF_eq hZ p hp]; unfold bodyF; rw [hF]; rfl

theorem then_tag {zs : List Int} (hZ : Byt zs) (S : List Fr) (p : Nat) (hp : p ≤ zs.length) {a : Int} {i : Bool} {o : Nat} (hF : headF zs p = some (6, a, i, o)) : thenF' zs S (itemF zs p) = thenF' zs S (itemF zs o) := by
  have e : itemF zs p = itemF zs o := by
    rw [itemF_eq hZ p hp]; unfold bodyF; rw [hF]; simp
  rw [e]

theorem then_rest {zs : List Int} (hZ : Byt zs) (S : List Fr) (p : Nat) (hp : p ≤ zs.length) {m a : Int} {i : Bool} {o : Nat} (hF : headF zs p = some (m, a, i, o)) (h6 : m ≠ 6) : thenF' zs S (itemF zs p) = restF zs S m a i o := by
  rw [itemF_eq hZ p hp]
  unfold bodyF restF
  rw [hF]
  simp only
  by_cases c1 : m = 2 ∨ m = 3
  · rw [if_pos c1, if_pos c1]
    cases i with
    | true =>
      rw [if_pos rfl, if_pos rfl]
      have e : frF zs (5, 0, false, m) o = untilF zs (chunkF zs m) (zs.length + 1) o := by
        simp only [frF]; rw [if_neg (by decide), if_neg (by decide), if_neg (by decide), if_neg (by decide)]; rfl
      rw [denF, e]; rfl
    | false => rw [if_neg (by decide), if_neg (by decide)]
  rw [if_neg c1, if_neg c1]
  by_cases c2 : m = 4
  · rw [if_pos c2, if_pos c2]
    cases i with
    | true =>
      rw [if_pos rfl, if_pos rfl]
      have e : frF zs (3, 0, false, 0) o = untilF zs (itemF zs) (zs.length + 1) o := by
        simp only [frF]; rw [if_neg (by decide), if_neg (by decide), if_pos (by decide)]; rfl
      rw [denF, e]; rfl
    | false =>
      rw [if_neg (by decide), if_neg (by decide)]
      have e : frF zs (1, a, false, 0) o = iterF (itemF zs) a.toNat o := by
        simp only [frF]; rw [if_pos trivial]
      rw [denF, e]; rfl
  rw [if_neg c2, if_neg c2]
  by_cases c3 : m = 5
  · rw [if_pos c3, if_pos c3]
    cases i with
    | true =>
      rw [if_pos rfl, if_pos rfl]
      have e : frF zs (4, 0, false, 0) o = untilF zs (twoF (itemF zs)) (zs.length + 1) o := by
        simp only [frF]; rw [if_neg (by decide), if_neg (by decide), if_neg (by decide), if_pos (by decide), if_neg (by decide)]; rfl
      rw [denF, e]; rfl
    | false =>
      rw [if_neg (by decide), if_neg (by decide)]
      have e : frF zs (2, a, false, 0) o = iterF (twoF (itemF zs)) a.toNat o := by
        simp only [frF]; rw [if_neg (by decide), if_pos (by decide), if_neg (by decide)]
      rw [denF, e]; rfl
  rw [if_neg c3, if_neg c3, if_neg h6]
  rfl

end Go.Proofs.Qxb6000697a

/- Plain mathematics of the CBOR head: no Go in sight. -/
namespace Go.Proofs.Qxb6000697a

/-- What 'zzMask' leaves of an argument. -/
def maskF (a w : Int) : Int :=
  if w = 0 then a % 24 else if w = 1 then a % 256 else if w = 2 then a % 65536 else if w = 3 then a % 4294967296 else a

/-- n bytes, the greatest first. -/
def beB : Nat → Int → List Int
  | 0, _ => []
  | n + 1, a => beB n (a / 256) ++ [a % 256]

theorem beB_len : ∀ (n : Nat) (a : Int), (beB n a).length = n
  | 0, _ => rfl
  | n + 1, a => by simp [beB, beB_len n]

/-- How many bytes of argument a width bears. -/
def argN (w : Int) : Nat := if w = 1 then 1 else if w = 2 then 2 else if w = 3 then 4 else if w = 4 then 8 else 0

/-- The head's bytes. -/
def encF (m a w : Int) : List Int :=
  if w = 0 then [m * 32 + a] else (m * 32 + (23 + w)) :: beB (argN w) a


/-- Every element is a byte. -/
def Byt (zs : List Int) : Prop := ∀ j, 0 ≤ zs.getD j 0 ∧ zs.getD j 0 ≤ 255

/-- The number that k bytes from place p on write, the greatest first. -/
def beAt (zs : List Int) (p : Nat) : Nat → Int
  | 0 => 0
  | k + 1 => beAt zs p k * 256 + zs.getD (p + k) 0

theorem beAt_bd (zs : List Int) (hz : Byt zs) (p : Nat) : ∀ k, 0 ≤ beAt zs p k ∧ beAt zs p k < 256 ^ k
  | 0 => by simp [beAt]
  | k + 1 => by
    have ih := beAt_bd zs hz p k
    have hb := hz (p + k)
    rw [beAt, Int.pow_succ]
    omega

theorem beAt_56 (zs : List Int) (hz : Byt zs) (p k : Nat) (hk : k ≤ 7) : 0 ≤ beAt zs p k ∧ beAt zs p k ≤ 72057594037927935 := by
  have h := beAt_bd zs hz p k
  have e : (256 : Int) ^ k ≤ 72057594037927936 := by
    rcases (show k = 0 ∨ k = 1 ∨ k = 2 ∨ k = 3 ∨ k = 4 ∨ k = 5 ∨ k = 6 ∨ k = 7 by omega) with rfl | rfl | rfl | rfl | rfl | rfl | rfl | rfl <;> decide
  omega

theorem beAt_64 (zs : List Int) (hz : Byt zs) (p k : Nat) (hk : k ≤ 8) : 0 ≤ beAt zs p k ∧ beAt zs p k ≤ 18446744073709551615 := by
  have h := beAt_bd zs hz p k
  have e : (256 : Int) ^ k ≤ 18446744073709551616 := by
    rcases (show k = 0 ∨ k = 1 ∨ k = 2 ∨ k = 3 ∨ k = 4 ∨ k = 5 ∨ k = 6 ∨ k = 7 ∨ k = 8 by omega) with rfl | rfl | rfl | rfl | rfl | rfl | rfl | rfl | rfl <;> decide
  omega

/-- How many bytes of argument the first byte of a head announces. -/
def szF (z : Int) : Nat := if z % 32 = 24 then 1 else if z % 32 = 25 then 2 else if z % 32 = 26 then 4 else 8

/-- The head at place off: its major type, its argument, the mark of an open length, where it ends; nothing where none can be read. -/
def headF (zs : List Int) (off : Nat) : Option (Int × Int × Bool × Nat) :=
  if zs.length ≤ off then none
  else if zs.getD off 0 % 32 < 24 then some (zs.getD off 0 / 32, zs.getD off 0 % 32, false, off + 1)
  else if zs.getD off 0 % 32 ≤ 27 then
    (if zs.length < off + 1 + szF (zs.getD off 0) then none
     else some (zs.getD off 0 / 32, beAt zs (off + 1) (szF (zs.getD off 0)), false, off + 1 + szF (zs.getD off 0)))
  else if zs.getD off 0 % 32 = 31 ∧ 2 ≤ zs.getD off 0 / 32 ∧ zs.getD off 0 / 32 ≤ 5 then some (zs.getD off 0 / 32, 0, true, off + 1)
  else none

theorem szF_of (z : Int) (h : ¬ z % 32 < 24) (h' : z % 32 ≤ 27) :
    (z % 32 = 24 ∧ szF z ≤ 1 ∧ 1 ≤ szF z) ∨ (z % 32 = 25 ∧ szF z ≤ 2 ∧ 2 ≤ szF z) ∨ (z % 32 = 26 ∧ szF z ≤ 4 ∧ 4 ≤ szF z) ∨ (z % 32 = 27 ∧ szF z ≤ 8 ∧ 8 ≤ szF z) := by
  rcases (show z % 32 = 24 ∨ z % 32 = 25 ∨ z % 32 = 26 ∨ z % 32 = 27 by omega) with h1 | h1 | h1 | h1 <;> simp [szF, h1]

/-- A head that was read lies inside the data, and moves on. -/
theorem headF_some {zs : List Int} {off : Nat} {m a : Int} {i : Bool} {o : Nat} (hZ : Byt zs) (h : headF zs off = some (m, a, i, o)) :
    off < o ∧ o ≤ zs.length ∧ 0 ≤ m ∧ m ≤ 7 ∧ 0 ≤ a ∧ a ≤ 18446744073709551615 := by
  have hb := hZ off
  unfold headF at h
  by_cases h1 : zs.length ≤ off
  · rw [if_pos h1] at h; cases h
  rw [if_neg h1] at h
  by_cases h2 : zs.getD off 0 % 32 < 24
  · rw [if_pos h2] at h; cases h; omega
  rw [if_neg h2] at h
  by_cases h3 : zs.getD off 0 % 32 ≤ 27
  · rw [if_pos h3] at h
    have hs := szF_of _ h2 h3
    have hbe := beAt_64 zs hZ (off + 1) (szF (zs.getD off 0)) (by omega)
    by_cases h4 : zs.length < off + 1 + szF (zs.getD off 0)
    · rw [if_pos h4] at h; cases h
    · rw [if_neg h4] at h; cases h; omega
  rw [if_neg h3] at h
  by_cases h5 : zs.getD off 0 % 32 = 31 ∧ 2 ≤ zs.getD off 0 / 32 ∧ zs.getD off 0 / 32 ≤ 5
  · rw [if_pos h5] at h; cases h; omega
  · rw [if_neg h5] at h; cases h

end Go.Proofs.Qxb6000697a

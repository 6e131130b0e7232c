/- The contract of the method head, whole; the shim ZZHead. -/
import Derived.Test.Qxb6000697aHead3
namespace Go.Proofs.Qxb6000697a
open Go.RowKit

/-- Where the reader's bytes lie: nowhere, if there are none; else at the head of a block that is not the reader's own. -/
def Src (w : World) (b : Nat) (ao : Option Addr) (zs : List Int) : Prop := zs.length = 0 ∨ ∃ g, ao = some ⟨g, 0, none⟩ ∧ g ≠ b ∧ Bts w g zs

theorem Src.grown {w w' : World} {b : Nat} {ao : Option Addr} {zs : List Int} (h : Src w b ao zs) (hg : w.grownBy w' (some b)) : Src w' b ao zs := by
  rcases h with h | ⟨g, e, hne, hB⟩
  · exact Or.inl h
  · exact Or.inr ⟨g, e, hne, hB.grown hg (by simpa using hne)⟩

theorem head_some (w : World) (b : Nat) (ao : Option Addr) (zs : List Int) (c off : Nat) (m a : Int) (i : Bool) (o : Nat) (hZ : Byt zs) (hn : zs.length ≤ 1099511627776) (hnc : zs.length ≤ c)
    (h : Rd w b ao zs.length c off true) (hs : Src w b ao zs) (hF : headF zs off = some (m, a, i, o)) :
    Calls Try.prog 28 #[.pointer (some ⟨b, 0, none⟩)] w fun e w' => e = .returned (.agg #[.int .u8 m, .int .u64 a, .bool i]) ∧ Rd w' b ao zs.length c o true ∧ w.grownBy w' (some b) := by
  unfold headF at hF
  by_cases h1 : zs.length ≤ off
  · rw [if_pos h1] at hF; cases hF
  rw [if_neg h1] at hF
  rcases hs with hs | ⟨g, rfl, hne, hB⟩
  · omega
  have hb := hZ off
  have hc := hB off (by omega)
  by_cases h2 : zs.getD off 0 % 32 < 24
  · rw [if_pos h2] at hF
    simp only [Option.some.injEq, Prod.mk.injEq] at hF
    obtain ⟨rfl, rfl, rfl, rfl⟩ := hF
    exact (head_small w b g zs.length c off _ h (by omega) hn hc hb.1 hb.2 h2)
  rw [if_neg h2] at hF
  by_cases h3 : zs.getD off 0 % 32 ≤ 27
  · rw [if_pos h3] at hF
    by_cases h4 : zs.length < off + 1 + szF (zs.getD off 0)
    · rw [if_pos h4] at hF; cases hF
    · rw [if_neg h4] at hF
      simp only [Option.some.injEq, Prod.mk.injEq] at hF
      obtain ⟨rfl, rfl, rfl, rfl⟩ := hF
      refine (head_long w b g zs hZ hB zs.length c rfl hnc off _ (szF (zs.getD off 0)) (szF_of _ h2 h3) h (by omega) hn hne hc hb.1 hb.2 (by omega)).mono ?_
      rintro e w' ⟨he, hr, hg⟩
      exact ⟨he, hr.cast (by omega), hg⟩
  rw [if_neg h3] at hF
  by_cases h5 : zs.getD off 0 % 32 = 31 ∧ 2 ≤ zs.getD off 0 / 32 ∧ zs.getD off 0 / 32 ≤ 5
  · rw [if_pos h5] at hF
    simp only [Option.some.injEq, Prod.mk.injEq] at hF
    obtain ⟨rfl, rfl, rfl, rfl⟩ := hF
    exact (head_indef w b g zs.length c off _ h (by omega) hn hc hb.1 hb.2 h5.1 h5.2.1 h5.2.2)
  · rw [if_neg h5] at hF; cases hF

theorem head_none (w : World) (b : Nat) (ao : Option Addr) (zs : List Int) (c off : Nat) (hZ : Byt zs) (hn : zs.length ≤ 1099511627776)
    (h : Rd w b ao zs.length c off true) (hs : Src w b ao zs) (hF : headF zs off = none) :
    Calls Try.prog 28 #[.pointer (some ⟨b, 0, none⟩)] w fun e w' => e = .returned (.agg #[.int .u8 0, .int .u64 0, .bool false]) ∧ (∃ x, Rd w' b ao zs.length c x false) ∧ w.grownBy w' (some b) := by
  unfold headF at hF
  by_cases h1 : zs.length ≤ off
  · refine (head_end w b ao zs.length c off h (by omega)).mono ?_
    rintro e w' ⟨he, hr, hg⟩
    exact ⟨he, ⟨_, hr⟩, hg⟩
  rw [if_neg h1] at hF
  rcases hs with hs | ⟨g, rfl, hne, hB⟩
  · omega
  have hb := hZ off
  have hc := hB off (by omega)
  by_cases h2 : zs.getD off 0 % 32 < 24
  · rw [if_pos h2] at hF; cases hF
  rw [if_neg h2] at hF
  by_cases h3 : zs.getD off 0 % 32 ≤ 27
  · rw [if_pos h3] at hF
    by_cases h4 : zs.length < off + 1 + szF (zs.getD off 0)
    · refine (head_short w b g zs.length c off _ (szF (zs.getD off 0)) (szF_of _ h2 h3) h (by omega) hn hc hb.1 hb.2 h4).mono ?_
      rintro e w' ⟨he, hr, hg⟩
      exact ⟨he, ⟨_, hr⟩, hg⟩
    · rw [if_neg h4] at hF; cases hF
  rw [if_neg h3] at hF
  by_cases h5 : zs.getD off 0 % 32 = 31 ∧ 2 ≤ zs.getD off 0 / 32 ∧ zs.getD off 0 / 32 ≤ 5
  · rw [if_pos h5] at hF; cases hF
  · refine (head_bad w b g zs.length c off _ h (by omega) hn hc hb.1 hb.2 (by omega) h5).mono ?_
    rintro e w' ⟨he, hr, hg⟩
    exact ⟨he, ⟨_, hr⟩, hg⟩

/-- A reader is born. -/
theorem Rd.born (w : World) (ao : Option Addr) (n c : Nat) (off : Int) (ok : Bool) : Rd (w.alloc (.cells #[.slice ao n c, .int .i64 off, .bool ok] 44)) w.heap.size ao n c off ok := ⟨heap_alloc_new w _⟩

set_option maxHeartbeats 400000 in
theorem zzhead_of (w : World) (ao : Option Addr) (n c : Nat) (off : Int) (m a : Int) (i ok : Bool) (Q : Int → Prop)
   (hC : Calls Try.prog 28 #[.pointer (some ⟨w.heap.size, 0, none⟩)] (w.alloc (.cells #[.slice ao n c, .int .i64 off, .bool true] 44)) fun e w' => ∃ o, Q o ∧ e = .returned (.agg #[.int .u8 m, .int .u64 a, .bool i]) ∧ Rd w' w.heap.size ao n c o ok ∧ (w.alloc (.cells #[.slice ao n c, .int .i64 off, .bool true] 44)).grownBy w' (some w.heap.size)) :
   Calls Try.prog 20 #[.slice ao n c, .int .i64 off, .bool true] w fun e w' => ∃ o, Q o ∧ e = .returned (.tuple #[.int .u8 m, .int .u64 a, .bool i, .int .i64 o, .bool ok]) ∧ Below w.heap.size w w' := by
  have HC : Hid (Calls Try.prog 28 #[.pointer (some ⟨w.heap.size, 0, none⟩)] (w.alloc (.cells #[.slice ao n c, .int .i64 off, .bool true] 44)) fun e w' => ∃ o, Q o ∧ e = .returned (.agg #[.int .u8 m, .int .u64 a, .bool i]) ∧ Rd w' w.heap.size ao n c o ok ∧ (w.alloc (.cells #[.slice ao n c, .int .i64 off, .bool true] 44)).grownBy w' (some w.heap.size)) := hC
  clear hC
  go_enter Try.func20, Try.ntmps20
  go_wp2_with fail
  refine HC.out.mono ?_
  rintro e w1 ⟨o, hQ, rfl, hR, hg⟩
  obtain ⟨c0, c1, c2, f1, f2, hb⟩ := hR.facts
  clear HC
  go_wp2_with fail
  go_quiet (fail)
  go_wp2_with fail
  refine bodyPost_ret (v := .tuple #[.int .u8 m, .int .u64 a, .bool i, .int .i64 o, .bool ok]) (by simp [results, Try.results20, go_sem]) rfl ⟨o, hQ, rfl, ?_⟩
  have hB0 : Below w.heap.size w (w.alloc (.cells #[.slice ao n c, .int .i64 off, .bool true] 44)) := (Below.refl _ _).alloc (Nat.le_refl _) _
  have hB1 : Below w.heap.size (w.alloc (.cells #[.slice ao n c, .int .i64 off, .bool true] 44)) w1 := gb_below hg (Nat.le_refl _) (by simp)
  exact below_drewN ((hB0.trans hB1).alloc (by omega) _) _
theorem zzhead_none (w : World) (ao : Option Addr) (zs : List Int) (c off : Nat) (hZ : Byt zs) (hn : zs.length ≤ 1099511627776) (hs : zs.length = 0 ∨ ∃ g, ao = some ⟨g, 0, none⟩ ∧ Bts w g zs) (hF : headF zs off = none) :
    Calls Try.prog 20 #[.slice ao zs.length c, .int .i64 off, .bool true] w fun e w' => ∃ o, e = .returned (.tuple #[.int .u8 0, .int .u64 0, .bool false, .int .i64 o, .bool false]) ∧ Below w.heap.size w w' := by
  have hsrc : Src (w.alloc (.cells #[.slice ao zs.length c, .int .i64 off, .bool true] 44)) w.heap.size ao zs := by
    by_cases h0 : zs.length = 0
    · exact Or.inl h0
    · rcases hs with h | ⟨g, e, hB⟩
      · exact absurd h h0
      · exact Or.inr ⟨g, e, by have := hB.lt (by omega); omega, hB.grown (World.grownBy_alloc w _ none) (by simp)⟩
  refine (zzhead_of w ao zs.length c off 0 0 false false (fun _ => True) ((head_none _ _ _ _ _ _ hZ hn (Rd.born w ao zs.length c off true) hsrc hF).mono ?_)).mono ?_
  · rintro e w' ⟨he, ⟨x, hR⟩, hg⟩
    exact ⟨x, trivial, he, hR, hg⟩
  · rintro e w' ⟨o, _, he, hb⟩
    exact ⟨o, he, hb⟩

theorem byt_take {zs : List Int} (h : Byt zs) (k : Nat) : Byt (zs.take k) := by
  intro j
  have := h j
  by_cases hj : j < k
  · simpa [List.getD, List.getElem?_take, hj] using this
  · simp [List.getD, List.getElem?_take, hj]

theorem byt_of {zs : List Int} (h : ∀ z ∈ zs, 0 ≤ z ∧ z ≤ 255) : Byt zs := by
  intro j
  by_cases hj : j < zs.length
  · have := h _ (List.getElem_mem hj)
    simpa [List.getD, hj] using this
  · simp [List.getD, hj]

theorem beB_mem : ∀ (n : Nat) (a : Int), ∀ z ∈ beB n a, 0 ≤ z ∧ z ≤ 255
  | 0, _, z, hz => by simp [beB] at hz
  | n + 1, a, z, hz => by
    rw [beB, List.mem_append, List.mem_singleton] at hz
    rcases hz with hz | rfl
    · exact beB_mem n _ z hz
    · omega

theorem bts_own {w : World} {base g cap : Nat} {L : List Int} (h : w.ownsRow base 5 1 (.slice (some ⟨g, 0, none⟩) L.length cap) L.length (L.map (Value.int .u8))) (k : Nat) : Bts w g (L.take k) := by
  intro j hj
  simp at hj
  rw [h.cellAt j (by omega)]
  simp [hj]

theorem byt_enc (m w : Int) (n : Nat) (a : Int) (hm0 : 0 ≤ m) (hm1 : m ≤ 7) (hw0 : 0 ≤ w) (hw1 : w ≤ 8) : ∀ z ∈ (m * 32 + (23 + w)) :: beB n a, 0 ≤ z ∧ z ≤ 255 := by
  intro z hz
  rw [List.mem_cons] at hz
  rcases hz with rfl | hz
  · omega
  · exact beB_mem n a z hz

end Go.Proofs.Qxb6000697a

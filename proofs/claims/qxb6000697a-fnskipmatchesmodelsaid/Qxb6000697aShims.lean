/- The shims ZZSkip and ZZOpen. -/
import Derived.Test.Qxb6000697aOpen
namespace Go.Proofs.Qxb6000697a
open Go.RowKit
set_option linter.unusedVariables false

/-- What ZZSkip answers. -/
def SkipRes (e : Ending) : Option Nat → Prop
  | none => ∃ x, e = .returned (.tuple #[.int .i64 x, .bool false])
  | some o => e = .returned (.tuple #[.int .i64 o, .bool true])

theorem out_rd {w : World} {b : Nat} {ao : Option Addr} {n c : Nat} {r : Option Nat} (h : Out w b ao n c r) : ∃ x, Rd w b ao n c x r.isSome ∧ (∀ o, r = some o → x = (o : Int)) := by
  cases r with
  | none => obtain ⟨x, hx⟩ := h; exact ⟨x, hx, by simp⟩
  | some o => exact ⟨o, h, by simp⟩

theorem src_born {w : World} {ao : Option Addr} {zs : List Int} (o : Obj) (hs : zs.length = 0 ∨ ∃ g, ao = some ⟨g, 0, none⟩ ∧ Bts w g zs) : Src (w.alloc o) w.heap.size ao zs := by
  by_cases h0 : zs.length = 0
  · exact Or.inl h0
  · rcases hs with h | ⟨g, e, hB⟩
    · exact absurd h h0
    · exact Or.inr ⟨g, e, by have := hB.lt (by omega); omega, hB.grown (World.grownBy_alloc w _ none) (by simp)⟩

set_option maxHeartbeats 400000 in
theorem zzskip_any (w : World) (ao : Option Addr) (zs : List Int) (c off : Nat) (hZ : Byt zs) (hn : zs.length ≤ 1099511627776) (hnc : zs.length ≤ c) (hs : zs.length = 0 ∨ ∃ g, ao = some ⟨g, 0, none⟩ ∧ Bts w g zs) (hoff : off ≤ zs.length) :
    Calls Try.prog 12 #[.slice ao zs.length c, .int .i64 off, .bool true] w fun e w' => SkipRes e (skipF zs (zs.length + 1) off) ∧ Below w.heap.size w w' := by
  obtain ⟨S, HS⟩ : ∃ S, Hid (S = skipF zs (zs.length + 1) off) := ⟨_, rfl⟩
  have HC : Hid (Calls Try.prog 25 #[.pointer (some ⟨w.heap.size, 0, none⟩)] (w.alloc (.cells #[.slice ao zs.length c, .int .i64 off, .bool true] 44)) fun e w' => e = .returned (.tuple #[]) ∧ (w.alloc (.cells #[.slice ao zs.length c, .int .i64 off, .bool true] 44)).grownBy w' (some w.heap.size) ∧ Out w' w.heap.size ao zs.length c S) := by
    rw [HS.out]
    exact skip_any w.heap.size ao zs c hZ hn hnc (zs.length + 1) _ off (Rd.born w ao zs.length c off true) (src_born _ hs) hoff (by omega)
  rw [← HS.out]
  clear hs hZ hoff
  go_enter Try.func12, Try.ntmps12
  go_wp2_with fail
  refine HC.out.mono ?_
  rintro e w1 ⟨rfl, hg, hO⟩
  obtain ⟨x, hR, hx⟩ := out_rd hO
  obtain ⟨c0, c1, c2, f1, f2, hb⟩ := hR.facts
  have hB0 : Below w.heap.size w (w.alloc (.cells #[.slice ao zs.length c, .int .i64 off, .bool true] 44)) := (Below.refl _ _).alloc (Nat.le_refl _) _
  have hB1 : Below w.heap.size (w.alloc (.cells #[.slice ao zs.length c, .int .i64 off, .bool true] 44)) w1 := gb_below hg (Nat.le_refl _) (by simp)
  have HB : Hid (Below w.heap.size w w1) := hB0.trans hB1
  have HX : Hid (∀ o, S = some o → x = (o : Int)) := hx
  clear HC hO hR hg hB0 hB1 hx c0
  go_wp2_with fail
  go_quiet (fail)
  go_wp2_with fail
  refine bodyPost_ret (v := .tuple #[.int .i64 x, .bool S.isSome]) (by simp [results, Try.results12, go_sem]) rfl ⟨?_, below_drewN HB.out _⟩
  cases S with
  | none => exact ⟨x, rfl⟩
  | some o => rw [HX.out o rfl]; rfl

/-- What open hands back, with the state of the reader. -/
def OpenQ (zs : List Int) (off : Nat) (major : Int) (m a : Int) (i mt : Bool) (x : Int) (ok : Bool) : Prop :=
  (∃ o, tagsF zs (zs.length + 1) off = some (m, a, i, o) ∧ m = major ∧ mt = true ∧ x = (o : Nat) ∧ ok = true) ∨
  (m = 0 ∧ a = 0 ∧ i = false ∧ mt = false ∧ ok = (skipF zs (zs.length + 1) off).isSome ∧ ∀ o, skipF zs (zs.length + 1) off = some o → x = (o : Int))

theorem open_q (w : World) (b : Nat) (ao : Option Addr) (zs : List Int) (c off : Nat) (major : Int) (hZ : Byt zs) (hn : zs.length ≤ 1099511627776) (hnc : zs.length ≤ c) (h : Rd w b ao zs.length c off true) (hs : Src w b ao zs) (hoff : off ≤ zs.length) :
    Calls Try.prog 29 #[.pointer (some ⟨b, 0, none⟩), .int .u8 major] w fun e w' => ∃ m a i mt x ok, e = .returned (.tuple #[.agg #[.int .u8 m, .int .u64 a, .bool i], .bool mt]) ∧ Rd w' b ao zs.length c x ok ∧ w.grownBy w' (some b) ∧ OpenQ zs off major m a i mt x ok := by
  refine (open_any w b ao zs c off major hZ hn hnc h hs hoff).mono ?_
  rintro e w' ⟨hg, hP⟩
  cases hT : tagsF zs (zs.length + 1) off with
  | none =>
    rw [hT] at hP
    obtain ⟨he, x, hx⟩ := hP
    have hS := tagsF_none zs hZ (zs.length + 1) (zs.length + 1) off (by omega) hT
    exact ⟨0, 0, false, false, x, false, he, hx, hg, Or.inr ⟨rfl, rfl, rfl, rfl, by rw [hS]; rfl, by rw [hS]; simp⟩⟩
  | some q =>
    obtain ⟨m, a, i, o⟩ := q
    rw [hT] at hP
    rcases hP with ⟨hm, he, hR⟩ | ⟨hm, he, hO⟩
    · exact ⟨m, a, i, true, o, true, he, hR, hg, Or.inl ⟨o, hT, hm, rfl, rfl, rfl⟩⟩
    · obtain ⟨x, hR, hx⟩ := out_rd hO
      exact ⟨0, 0, false, false, x, _, he, hR, hg, Or.inr ⟨rfl, rfl, rfl, rfl, rfl, hx⟩⟩

set_option maxHeartbeats 400000 in
theorem zzopen_any (w : World) (ao : Option Addr) (zs : List Int) (c off : Nat) (major : Int) (hZ : Byt zs) (hn : zs.length ≤ 1099511627776) (hnc : zs.length ≤ c) (hs : zs.length = 0 ∨ ∃ g, ao = some ⟨g, 0, none⟩ ∧ Bts w g zs) (hoff : off ≤ zs.length) :
    Calls Try.prog 22 #[.slice ao zs.length c, .int .i64 off, .bool true, .int .u8 major] w fun e w' => (∃ m a i mt x ok, e = .returned (.tuple #[.int .u8 m, .int .u64 a, .bool i, .bool mt, .int .i64 x, .bool ok]) ∧ OpenQ zs off major m a i mt x ok) ∧ Below w.heap.size w w' := by
  have HC : Hid (Calls Try.prog 29 #[.pointer (some ⟨w.heap.size, 0, none⟩), .int .u8 major] (w.alloc (.cells #[.slice ao zs.length c, .int .i64 off, .bool true] 44)) fun e w' => ∃ m a i mt x ok, e = .returned (.tuple #[.agg #[.int .u8 m, .int .u64 a, .bool i], .bool mt]) ∧ Rd w' w.heap.size ao zs.length c x ok ∧ (w.alloc (.cells #[.slice ao zs.length c, .int .i64 off, .bool true] 44)).grownBy w' (some w.heap.size) ∧ OpenQ zs off major m a i mt x ok) :=
    open_q _ w.heap.size ao zs c off major hZ hn hnc (Rd.born w ao zs.length c off true) (src_born _ hs) hoff
  clear hs hZ hoff
  go_enter Try.func22, Try.ntmps22
  go_wp2_with fail
  refine HC.out.mono ?_
  rintro e w1 ⟨m, a, i, mt, x, ok, rfl, hR, hg, hQ⟩
  obtain ⟨c0, c1, c2, f1, f2, hb⟩ := hR.facts
  have hB0 : Below w.heap.size w (w.alloc (.cells #[.slice ao zs.length c, .int .i64 off, .bool true] 44)) := (Below.refl _ _).alloc (Nat.le_refl _) _
  have hB1 : Below w.heap.size (w.alloc (.cells #[.slice ao zs.length c, .int .i64 off, .bool true] 44)) w1 := gb_below hg (Nat.le_refl _) (by simp)
  have HB : Hid (Below w.heap.size w w1) := hB0.trans hB1
  have HQ : Hid (OpenQ zs off major m a i mt x ok) := hQ
  clear HC hR hg hB0 hB1 hQ c0
  go_wp2_with fail
  go_quiet (fail)
  go_wp2_with fail
  refine bodyPost_ret (v := .tuple #[.int .u8 m, .int .u64 a, .bool i, .bool mt, .int .i64 x, .bool ok]) (by simp [results, Try.results22, go_sem]) rfl ⟨⟨m, a, i, mt, x, ok, rfl, HQ.out⟩, below_drewN (HB.out.alloc (by omega) _) _⟩

end Go.Proofs.Qxb6000697a

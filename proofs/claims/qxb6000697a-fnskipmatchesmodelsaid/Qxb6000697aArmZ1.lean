/- A round's second half: a string of open length. -/
import Derived.Test.Qxb6000697aLoop
namespace Go.Proofs.Qxb6000697a
open Go.RowKit
set_option linter.unusedVariables false

set_option maxRecDepth 100000 in
set_option maxHeartbeats 2000000 in
theorem armZ_s2 (x : Cx) (hx : CxOk x) (gk : Nat) (a : Act) (wc : World) (p0 p o : Nat) (S : List Fr) (g cap N : Nat) (m ar : Int) (i : Bool) (ha : FB a (.slice x.ao x.n x.c) (.int .i64 p) (.slice (some ⟨g, 0, none⟩) N cap) (.bool true) (.int .u8 2) (.int .u64 ar) (.bool true) (.int .i64 o) (.bool true))
    (hpp : p0 ≤ p) (hpo : p < o) (hon : o ≤ x.n) (hN0 : N = S.length) (hSp : N ≤ p0) (hS : Stk wc x.w.heap.size (.slice (some ⟨g, 0, none⟩) N cap) S) (hB : Below x.w.heap.size x.w wc) (hok : ∀ y ∈ S, FrOk y) (hgk : 2 * (x.n - p0) + N + 1 ≤ gk) (h0 : 0 ≤ ar) (h1 : ar ≤ 18446744073709551615) (hm0 : 0 ≤ m) (hm1 : m ≤ 7)
    (hr : denF x.zs ((5, 0, false, 2) :: S) o = x.R)
    (Q : Exit → Act → World → Prop) (hN : ∀ a w, Cont x gk a w → Q .normal a w) (hQ : ∀ a w, Ret x a w → Q .ret a w) : Code.wp Try.prog (codeZ Try.f13) Q a wc := by
  obtain ⟨i0, hi, hz0, hz1, hz2⟩ := info_parts Try.info47
  obtain ⟨w, ao, zs, n, c, off, R⟩ := x
  obtain ⟨hl, hbyt, hn, hdat, hans, hoff⟩ := hx
  simp only at *
  have HL : Hid (n = zs.length) := hl
  have HZ : Hid (Byt zs) := hbyt
  have HS : Hid (Dat w ao zs) := hdat
  clear hl hbyt hdat hans
  obtain ⟨u, rfl⟩ := ha.lit
  clear ha
  conv => arg 2; whnf
  have HST : Hid (Stk wc w.heap.size (.slice (some ⟨g, 0, none⟩) N cap) S) := hS
  have HB : Hid (Below w.heap.size w wc) := hB
  have HOK : Hid (∀ y ∈ S, FrOk y) := hok
  have HGK : Hid (2 * (n - p0) + N + 1 ≤ gk) := hgk
  have HN : Hid (N = S.length) := hN0
  have hBg : w.heap.size ≤ g := hS.cap.2.2.1
  obtain ⟨CS, HCS⟩ : ∃ CS, Hid (CS = stC S) := ⟨_, rfl⟩
  have HOWN : Hid (wc.ownsRow w.heap.size 47 4 (.slice (some ⟨g, 0, none⟩) N cap) N CS) := by
    rw [HN.out, HCS.out]
    have := hS.own
    rw [← hN0] at this ⊢
    exact this
  have HREST : Hid (denF zs ((5, 0, false, 2) :: S) o = R) := hr
  clear hS hB hok hgk hN0 hr
  go_wp2_with (at_builtin; refine wpList_append_own _ rfl _ _ 45 rfl w.heap.size 47 i0 (.agg #[.int .i64 0, .int .u64 0, .bool false, .int .u8 0]) 4 24 Try.underlying45 hi hz0 hz1 hz2 rfl (by decide) (.slice (some ⟨g, 0, none⟩) N cap) N CS rfl (HOWN.out.alloc _) ⟨wc.heap.size, 0, none⟩ 1 1 (frC (5, 0, false, 2)) rfl rfl ?c1 ?c2 ?c3 ?c4 ?c5 ?_)
  case c1 => exact fr_new wc (5, 0, false, 2) 47
  case c2 => exact frC_one (5, 0, false, 2)
  case c3 => unfold maxLen; omega
  case c4 => omega
  case c5 => simp; have := HB.out.size; omega
  intro v' w2 hown2 hgr2 hnil2
  have HST2 : Hid (Stk w2 w.heap.size v' ((5, 0, false, 2) :: S)) := by
    rw [HCS.out, HN.out] at hown2
    exact Stk.pushed hown2
  have HB2 : Hid (Below w.heap.size w w2) := (HB.out.alloc HB.out.size _).grown hgr2 (by simp; have := HB.out.size; omega) (fun q hq => by simp [Value.ownBlock] at hq; omega)
  clear hown2 hgr2 hnil2
  go_wp2_with fail
  refine hN _ _ ⟨2 * (n - o) + (N + 1) + 1, by have := HGK.out; omega, o, (5, 0, false, 2) :: S, true, _, ⟨rfl, rfl, rfl, rfl, rfl, rfl⟩, hon, by rw [List.length_cons, ← HN.out]; omega, HST2.out, HB2.out, ?_, Or.inr ⟨rfl, HREST.out, by dsimp only; rw [List.length_cons, ← HN.out]⟩⟩
  intro y hy
  rw [List.mem_cons] at hy
  rcases hy with rfl | hy
  · exact ⟨Or.inr (Or.inr (Or.inr (Or.inr rfl))), by dsimp only; omega, by dsimp only; omega, by dsimp only; omega, by dsimp only; omega⟩
  · exact HOK.out y hy

set_option maxRecDepth 100000 in
set_option maxHeartbeats 2000000 in
theorem armZ_s3 (x : Cx) (hx : CxOk x) (gk : Nat) (a : Act) (wc : World) (p0 p o : Nat) (S : List Fr) (g cap N : Nat) (m ar : Int) (i : Bool) (ha : FB a (.slice x.ao x.n x.c) (.int .i64 p) (.slice (some ⟨g, 0, none⟩) N cap) (.bool true) (.int .u8 3) (.int .u64 ar) (.bool true) (.int .i64 o) (.bool true))
    (hpp : p0 ≤ p) (hpo : p < o) (hon : o ≤ x.n) (hN0 : N = S.length) (hSp : N ≤ p0) (hS : Stk wc x.w.heap.size (.slice (some ⟨g, 0, none⟩) N cap) S) (hB : Below x.w.heap.size x.w wc) (hok : ∀ y ∈ S, FrOk y) (hgk : 2 * (x.n - p0) + N + 1 ≤ gk) (h0 : 0 ≤ ar) (h1 : ar ≤ 18446744073709551615) (hm0 : 0 ≤ m) (hm1 : m ≤ 7)
    (hr : denF x.zs ((5, 0, false, 3) :: S) o = x.R)
    (Q : Exit → Act → World → Prop) (hN : ∀ a w, Cont x gk a w → Q .normal a w) (hQ : ∀ a w, Ret x a w → Q .ret a w) : Code.wp Try.prog (codeZ Try.f13) Q a wc := by
  obtain ⟨i0, hi, hz0, hz1, hz2⟩ := info_parts Try.info47
  obtain ⟨w, ao, zs, n, c, off, R⟩ := x
  obtain ⟨hl, hbyt, hn, hdat, hans, hoff⟩ := hx
  simp only at *
  have HL : Hid (n = zs.length) := hl
  have HZ : Hid (Byt zs) := hbyt
  have HS : Hid (Dat w ao zs) := hdat
  clear hl hbyt hdat hans
  obtain ⟨u, rfl⟩ := ha.lit
  clear ha
  conv => arg 2; whnf
  have HST : Hid (Stk wc w.heap.size (.slice (some ⟨g, 0, none⟩) N cap) S) := hS
  have HB : Hid (Below w.heap.size w wc) := hB
  have HOK : Hid (∀ y ∈ S, FrOk y) := hok
  have HGK : Hid (2 * (n - p0) + N + 1 ≤ gk) := hgk
  have HN : Hid (N = S.length) := hN0
  have hBg : w.heap.size ≤ g := hS.cap.2.2.1
  obtain ⟨CS, HCS⟩ : ∃ CS, Hid (CS = stC S) := ⟨_, rfl⟩
  have HOWN : Hid (wc.ownsRow w.heap.size 47 4 (.slice (some ⟨g, 0, none⟩) N cap) N CS) := by
    rw [HN.out, HCS.out]
    have := hS.own
    rw [← hN0] at this ⊢
    exact this
  have HREST : Hid (denF zs ((5, 0, false, 3) :: S) o = R) := hr
  clear hS hB hok hgk hN0 hr
  go_wp2_with (at_builtin; refine wpList_append_own _ rfl _ _ 45 rfl w.heap.size 47 i0 (.agg #[.int .i64 0, .int .u64 0, .bool false, .int .u8 0]) 4 24 Try.underlying45 hi hz0 hz1 hz2 rfl (by decide) (.slice (some ⟨g, 0, none⟩) N cap) N CS rfl (HOWN.out.alloc _) ⟨wc.heap.size, 0, none⟩ 1 1 (frC (5, 0, false, 3)) rfl rfl ?c1 ?c2 ?c3 ?c4 ?c5 ?_)
  case c1 => exact fr_new wc (5, 0, false, 3) 47
  case c2 => exact frC_one (5, 0, false, 3)
  case c3 => unfold maxLen; omega
  case c4 => omega
  case c5 => simp; have := HB.out.size; omega
  intro v' w2 hown2 hgr2 hnil2
  have HST2 : Hid (Stk w2 w.heap.size v' ((5, 0, false, 3) :: S)) := by
    rw [HCS.out, HN.out] at hown2
    exact Stk.pushed hown2
  have HB2 : Hid (Below w.heap.size w w2) := (HB.out.alloc HB.out.size _).grown hgr2 (by simp; have := HB.out.size; omega) (fun q hq => by simp [Value.ownBlock] at hq; omega)
  clear hown2 hgr2 hnil2
  go_wp2_with fail
  refine hN _ _ ⟨2 * (n - o) + (N + 1) + 1, by have := HGK.out; omega, o, (5, 0, false, 3) :: S, true, _, ⟨rfl, rfl, rfl, rfl, rfl, rfl⟩, hon, by rw [List.length_cons, ← HN.out]; omega, HST2.out, HB2.out, ?_, Or.inr ⟨rfl, HREST.out, by dsimp only; rw [List.length_cons, ← HN.out]⟩⟩
  intro y hy
  rw [List.mem_cons] at hy
  rcases hy with rfl | hy
  · exact ⟨Or.inr (Or.inr (Or.inr (Or.inr rfl))), by dsimp only; omega, by dsimp only; omega, by dsimp only; omega, by dsimp only; omega⟩
  · exact HOK.out y hy

end Go.Proofs.Qxb6000697a

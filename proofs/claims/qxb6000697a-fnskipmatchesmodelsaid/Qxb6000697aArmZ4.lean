/- A round's second half: a string; anything else. -/
import Derived.Test.Qxb6000697aLoop
namespace Go.Proofs.Qxb6000697a
open Go.RowKit
set_option linter.unusedVariables false

set_option maxRecDepth 100000 in
set_option maxHeartbeats 2000000 in
theorem armZ_bad (x : Cx) (hx : CxOk x) (gk : Nat) (a : Act) (wc : World) (p : Nat) (v : Value) (m ar : Int) (i : Bool) (o : Int) (ha : FB a (.slice x.ao x.n x.c) (.int .i64 p) v (.bool true) (.int .u8 m) (.int .u64 ar) (.bool i) (.int .i64 o) (.bool false))
    (hB : Below x.w.heap.size x.w wc) (hR : x.R = none)
    (Q : Exit → Act → World → Prop) (hN : ∀ a w, Cont x gk a w → Q .normal a w) (hQ : ∀ a w, Ret x a w → Q .ret a w) : Code.wp Try.prog (codeZ Try.f13) Q a wc := by
  obtain ⟨w, ao, zs, n, c, off, R⟩ := x
  obtain ⟨hl, hbyt, hn, hdat, hans, hoff⟩ := hx
  simp only at *
  have HL : Hid (n = zs.length) := hl
  have HZ : Hid (Byt zs) := hbyt
  have HS : Hid (Dat w ao zs) := hdat
  clear hl hbyt hdat hans
  obtain ⟨u, rfl⟩ := ha.lit
  clear ha
  conv => arg 2; whnf
  have HB : Hid (Below w.heap.size w wc) := hB
  have HRN : Hid (R = none) := hR
  clear hB hR
  go_wp2_with fail
  refine ⟨rfl, _, false, rfl, rfl, ?_, ?_, HB.out⟩
  · show false = R.isSome; rw [HRN.out]; rfl
  · intro o ho; have ho2 : R = some o := ho; rw [HRN.out] at ho2; cases ho2

set_option maxRecDepth 100000 in
set_option maxHeartbeats 2000000 in
theorem armZ_f2 (x : Cx) (hx : CxOk x) (gk : Nat) (a : Act) (wc : World) (p0 p o : Nat) (S : List Fr) (g cap N : Nat) (m ar : Int) (i : Bool) (ha : FB a (.slice x.ao x.n x.c) (.int .i64 p) (.slice (some ⟨g, 0, none⟩) N cap) (.bool true) (.int .u8 2) (.int .u64 ar) (.bool false) (.int .i64 o) (.bool true))
    (hpp : p0 ≤ p) (hpo : p < o) (hon : o ≤ x.n) (hN0 : N = S.length) (hSp : N ≤ p0) (hS : Stk wc x.w.heap.size (.slice (some ⟨g, 0, none⟩) N cap) S) (hB : Below x.w.heap.size x.w wc) (hok : ∀ y ∈ S, FrOk y) (hgk : 2 * (x.n - p0) + N + 1 ≤ gk) (h0 : 0 ≤ ar) (h1 : ar ≤ 18446744073709551615) (hm0 : 0 ≤ m) (hm1 : m ≤ 7)
    (hov : ar ≤ (x.n : Int) - o) (hr : denF x.zs S (o + ar.toNat) = x.R)
    (Q : Exit → Act → World → Prop) (hN : ∀ a w, Cont x gk a w → Q .normal a w) (hQ : ∀ a w, Ret x a w → Q .ret a w) : Code.wp Try.prog (codeZ Try.f13) Q a wc := by
  obtain ⟨i0, hi, hz0, hz1, hz2⟩ := info_parts Try.info47
  obtain ⟨w, ao, zs, n, c, off, R⟩ := x
  obtain ⟨hl, hbyt, hn, hdat, hans, hoff⟩ := hx
  simp only at *
  have HL : Hid (n = zs.length) := hl
  have HZ : Hid (Byt zs) := hbyt
  have HS : Hid (Dat w ao zs) := hdat
  clear hl hbyt hdat hans
  obtain ⟨u, rfl⟩ := ha.lit
  clear ha
  conv => arg 2; whnf
  have HST : Hid (Stk wc w.heap.size (.slice (some ⟨g, 0, none⟩) N cap) S) := hS
  have HB : Hid (Below w.heap.size w wc) := hB
  have HOK : Hid (∀ y ∈ S, FrOk y) := hok
  have HGK : Hid (2 * (n - p0) + N + 1 ≤ gk) := hgk
  have HN : Hid (N = S.length) := hN0
  have hBg : w.heap.size ≤ g := hS.cap.2.2.1
  obtain ⟨CS, HCS⟩ : ∃ CS, Hid (CS = stC S) := ⟨_, rfl⟩
  have HOWN : Hid (wc.ownsRow w.heap.size 47 4 (.slice (some ⟨g, 0, none⟩) N cap) N CS) := by
    rw [HN.out, HCS.out]
    have := hS.own
    rw [← hN0] at this ⊢
    exact this
  have HREST : Hid (denF zs S (o + ar.toNat) = R) := hr
  clear hS hB hok hgk hN0 hr
  go_wp2_with fail
  refine hN _ _ ⟨2 * (n - (o + ar.toNat)) + N + 1, by have := HGK.out; omega, o + ar.toNat, S, true, _, ⟨rfl, rfl, rfl, (by show Value.int .i64 _ = _; exact num_eq (by omega)), rfl, rfl⟩, (by show _ ≤ n; omega), by rw [← HN.out]; omega, HST.out, HB.out, HOK.out, Or.inr ⟨rfl, HREST.out, by dsimp only; rw [← HN.out]⟩⟩

set_option maxRecDepth 100000 in
set_option maxHeartbeats 2000000 in
theorem armZ_f3 (x : Cx) (hx : CxOk x) (gk : Nat) (a : Act) (wc : World) (p0 p o : Nat) (S : List Fr) (g cap N : Nat) (m ar : Int) (i : Bool) (ha : FB a (.slice x.ao x.n x.c) (.int .i64 p) (.slice (some ⟨g, 0, none⟩) N cap) (.bool true) (.int .u8 3) (.int .u64 ar) (.bool false) (.int .i64 o) (.bool true))
    (hpp : p0 ≤ p) (hpo : p < o) (hon : o ≤ x.n) (hN0 : N = S.length) (hSp : N ≤ p0) (hS : Stk wc x.w.heap.size (.slice (some ⟨g, 0, none⟩) N cap) S) (hB : Below x.w.heap.size x.w wc) (hok : ∀ y ∈ S, FrOk y) (hgk : 2 * (x.n - p0) + N + 1 ≤ gk) (h0 : 0 ≤ ar) (h1 : ar ≤ 18446744073709551615) (hm0 : 0 ≤ m) (hm1 : m ≤ 7)
    (hov : ar ≤ (x.n : Int) - o) (hr : denF x.zs S (o + ar.toNat) = x.R)
    (Q : Exit → Act → World → Prop) (hN : ∀ a w, Cont x gk a w → Q .normal a w) (hQ : ∀ a w, Ret x a w → Q .ret a w) : Code.wp Try.prog (codeZ Try.f13) Q a wc := by
  obtain ⟨i0, hi, hz0, hz1, hz2⟩ := info_parts Try.info47
  obtain ⟨w, ao, zs, n, c, off, R⟩ := x
  obtain ⟨hl, hbyt, hn, hdat, hans, hoff⟩ := hx
  simp only at *
  have HL : Hid (n = zs.length) := hl
  have HZ : Hid (Byt zs) := hbyt
  have HS : Hid (Dat w ao zs) := hdat
  clear hl hbyt hdat hans
  obtain ⟨u, rfl⟩ := ha.lit
  clear ha
  conv => arg 2; whnf
  have HST : Hid (Stk wc w.heap.size (.slice (some ⟨g, 0, none⟩) N cap) S) := hS
  have HB : Hid (Below w.heap.size w wc) := hB
  have HOK : Hid (∀ y ∈ S, FrOk y) := hok
  have HGK : Hid (2 * (n - p0) + N + 1 ≤ gk) := hgk
  have HN : Hid (N = S.length) := hN0
  have hBg : w.heap.size ≤ g := hS.cap.2.2.1
  obtain ⟨CS, HCS⟩ : ∃ CS, Hid (CS = stC S) := ⟨_, rfl⟩
  have HOWN : Hid (wc.ownsRow w.heap.size 47 4 (.slice (some ⟨g, 0, none⟩) N cap) N CS) := by
    rw [HN.out, HCS.out]
    have := hS.own
    rw [← hN0] at this ⊢
    exact this
  have HREST : Hid (denF zs S (o + ar.toNat) = R) := hr
  clear hS hB hok hgk hN0 hr
  go_wp2_with fail
  refine hN _ _ ⟨2 * (n - (o + ar.toNat)) + N + 1, by have := HGK.out; omega, o + ar.toNat, S, true, _, ⟨rfl, rfl, rfl, (by show Value.int .i64 _ = _; exact num_eq (by omega)), rfl, rfl⟩, (by show _ ≤ n; omega), by rw [← HN.out]; omega, HST.out, HB.out, HOK.out, Or.inr ⟨rfl, HREST.out, by dsimp only; rw [← HN.out]⟩⟩

set_option maxRecDepth 100000 in
set_option maxHeartbeats 2000000 in
theorem armZ_o2 (x : Cx) (hx : CxOk x) (gk : Nat) (a : Act) (wc : World) (p0 p o : Nat) (S : List Fr) (g cap N : Nat) (m ar : Int) (i : Bool) (ha : FB a (.slice x.ao x.n x.c) (.int .i64 p) (.slice (some ⟨g, 0, none⟩) N cap) (.bool true) (.int .u8 2) (.int .u64 ar) (.bool false) (.int .i64 o) (.bool true))
    (hpp : p0 ≤ p) (hpo : p < o) (hon : o ≤ x.n) (hN0 : N = S.length) (hSp : N ≤ p0) (hS : Stk wc x.w.heap.size (.slice (some ⟨g, 0, none⟩) N cap) S) (hB : Below x.w.heap.size x.w wc) (hok : ∀ y ∈ S, FrOk y) (hgk : 2 * (x.n - p0) + N + 1 ≤ gk) (h0 : 0 ≤ ar) (h1 : ar ≤ 18446744073709551615) (hm0 : 0 ≤ m) (hm1 : m ≤ 7)
    (hov : ¬ ar ≤ (x.n : Int) - o) (hr : x.R = none)
    (Q : Exit → Act → World → Prop) (hN : ∀ a w, Cont x gk a w → Q .normal a w) (hQ : ∀ a w, Ret x a w → Q .ret a w) : Code.wp Try.prog (codeZ Try.f13) Q a wc := by
  obtain ⟨i0, hi, hz0, hz1, hz2⟩ := info_parts Try.info47
  obtain ⟨w, ao, zs, n, c, off, R⟩ := x
  obtain ⟨hl, hbyt, hn, hdat, hans, hoff⟩ := hx
  simp only at *
  have HL : Hid (n = zs.length) := hl
  have HZ : Hid (Byt zs) := hbyt
  have HS : Hid (Dat w ao zs) := hdat
  clear hl hbyt hdat hans
  obtain ⟨u, rfl⟩ := ha.lit
  clear ha
  conv => arg 2; whnf
  have HST : Hid (Stk wc w.heap.size (.slice (some ⟨g, 0, none⟩) N cap) S) := hS
  have HB : Hid (Below w.heap.size w wc) := hB
  have HOK : Hid (∀ y ∈ S, FrOk y) := hok
  have HGK : Hid (2 * (n - p0) + N + 1 ≤ gk) := hgk
  have HN : Hid (N = S.length) := hN0
  have hBg : w.heap.size ≤ g := hS.cap.2.2.1
  obtain ⟨CS, HCS⟩ : ∃ CS, Hid (CS = stC S) := ⟨_, rfl⟩
  have HOWN : Hid (wc.ownsRow w.heap.size 47 4 (.slice (some ⟨g, 0, none⟩) N cap) N CS) := by
    rw [HN.out, HCS.out]
    have := hS.own
    rw [← hN0] at this ⊢
    exact this
  have HREST : Hid (R = none) := hr
  clear hS hB hok hgk hN0 hr
  have HRN := HREST
  go_wp2_with fail
  refine ⟨rfl, _, false, rfl, rfl, ?_, ?_, HB.out⟩
  · show false = R.isSome; rw [HRN.out]; rfl
  · intro o ho; have ho2 : R = some o := ho; rw [HRN.out] at ho2; cases ho2

set_option maxRecDepth 100000 in
set_option maxHeartbeats 2000000 in
theorem armZ_o3 (x : Cx) (hx : CxOk x) (gk : Nat) (a : Act) (wc : World) (p0 p o : Nat) (S : List Fr) (g cap N : Nat) (m ar : Int) (i : Bool) (ha : FB a (.slice x.ao x.n x.c) (.int .i64 p) (.slice (some ⟨g, 0, none⟩) N cap) (.bool true) (.int .u8 3) (.int .u64 ar) (.bool false) (.int .i64 o) (.bool true))
    (hpp : p0 ≤ p) (hpo : p < o) (hon : o ≤ x.n) (hN0 : N = S.length) (hSp : N ≤ p0) (hS : Stk wc x.w.heap.size (.slice (some ⟨g, 0, none⟩) N cap) S) (hB : Below x.w.heap.size x.w wc) (hok : ∀ y ∈ S, FrOk y) (hgk : 2 * (x.n - p0) + N + 1 ≤ gk) (h0 : 0 ≤ ar) (h1 : ar ≤ 18446744073709551615) (hm0 : 0 ≤ m) (hm1 : m ≤ 7)
    (hov : ¬ ar ≤ (x.n : Int) - o) (hr : x.R = none)
    (Q : Exit → Act → World → Prop) (hN : ∀ a w, Cont x gk a w → Q .normal a w) (hQ : ∀ a w, Ret x a w → Q .ret a w) : Code.wp Try.prog (codeZ Try.f13) Q a wc := by
  obtain ⟨i0, hi, hz0, hz1, hz2⟩ := info_parts Try.info47
  obtain ⟨w, ao, zs, n, c, off, R⟩ := x
  obtain ⟨hl, hbyt, hn, hdat, hans, hoff⟩ := hx
  simp only at *
  have HL : Hid (n = zs.length) := hl
  have HZ : Hid (Byt zs) := hbyt
  have HS : Hid (Dat w ao zs) := hdat
  clear hl hbyt hdat hans
  obtain ⟨u, rfl⟩ := ha.lit
  clear ha
  conv => arg 2; whnf
  have HST : Hid (Stk wc w.heap.size (.slice (some ⟨g, 0, none⟩) N cap) S) := hS
  have HB : Hid (Below w.heap.size w wc) := hB
  have HOK : Hid (∀ y ∈ S, FrOk y) := hok
  have HGK : Hid (2 * (n - p0) + N + 1 ≤ gk) := hgk
  have HN : Hid (N = S.length) := hN0
  have hBg : w.heap.size ≤ g := hS.cap.2.2.1
  obtain ⟨CS, HCS⟩ : ∃ CS, Hid (CS = stC S) := ⟨_, rfl⟩
  have HOWN : Hid (wc.ownsRow w.heap.size 47 4 (.slice (some ⟨g, 0, none⟩) N cap) N CS) := by
    rw [HN.out, HCS.out]
    have := hS.own
    rw [← hN0] at this ⊢
    exact this
  have HREST : Hid (R = none) := hr
  clear hS hB hok hgk hN0 hr
  have HRN := HREST
  go_wp2_with fail
  refine ⟨rfl, _, false, rfl, rfl, ?_, ?_, HB.out⟩
  · show false = R.isSome; rw [HRN.out]; rfl
  · intro o ho; have ho2 : R = some o := ho; rw [HRN.out] at ho2; cases ho2

set_option maxRecDepth 100000 in
set_option maxHeartbeats 2000000 in
theorem armZ_p (x : Cx) (hx : CxOk x) (gk : Nat) (a : Act) (wc : World) (p0 p o : Nat) (S : List Fr) (g cap N : Nat) (m ar : Int) (i : Bool) (ha : FB a (.slice x.ao x.n x.c) (.int .i64 p) (.slice (some ⟨g, 0, none⟩) N cap) (.bool true) (.int .u8 m) (.int .u64 ar) (.bool i) (.int .i64 o) (.bool true))
    (hpp : p0 ≤ p) (hpo : p < o) (hon : o ≤ x.n) (hN0 : N = S.length) (hSp : N ≤ p0) (hS : Stk wc x.w.heap.size (.slice (some ⟨g, 0, none⟩) N cap) S) (hB : Below x.w.heap.size x.w wc) (hok : ∀ y ∈ S, FrOk y) (hgk : 2 * (x.n - p0) + N + 1 ≤ gk) (h0 : 0 ≤ ar) (h1 : ar ≤ 18446744073709551615) (hm0 : 0 ≤ m) (hm1 : m ≤ 7)
    (hm : m < 2 ∨ 5 < m) (hr : denF x.zs S o = x.R)
    (Q : Exit → Act → World → Prop) (hN : ∀ a w, Cont x gk a w → Q .normal a w) (hQ : ∀ a w, Ret x a w → Q .ret a w) : Code.wp Try.prog (codeZ Try.f13) Q a wc := by
  obtain ⟨i0, hi, hz0, hz1, hz2⟩ := info_parts Try.info47
  obtain ⟨w, ao, zs, n, c, off, R⟩ := x
  obtain ⟨hl, hbyt, hn, hdat, hans, hoff⟩ := hx
  simp only at *
  have HL : Hid (n = zs.length) := hl
  have HZ : Hid (Byt zs) := hbyt
  have HS : Hid (Dat w ao zs) := hdat
  clear hl hbyt hdat hans
  obtain ⟨u, rfl⟩ := ha.lit
  clear ha
  conv => arg 2; whnf
  have HST : Hid (Stk wc w.heap.size (.slice (some ⟨g, 0, none⟩) N cap) S) := hS
  have HB : Hid (Below w.heap.size w wc) := hB
  have HOK : Hid (∀ y ∈ S, FrOk y) := hok
  have HGK : Hid (2 * (n - p0) + N + 1 ≤ gk) := hgk
  have HN : Hid (N = S.length) := hN0
  have hBg : w.heap.size ≤ g := hS.cap.2.2.1
  obtain ⟨CS, HCS⟩ : ∃ CS, Hid (CS = stC S) := ⟨_, rfl⟩
  have HOWN : Hid (wc.ownsRow w.heap.size 47 4 (.slice (some ⟨g, 0, none⟩) N cap) N CS) := by
    rw [HN.out, HCS.out]
    have := hS.own
    rw [← hN0] at this ⊢
    exact this
  have HREST : Hid (denF zs S o = R) := hr
  clear hS hB hok hgk hN0 hr
  have k2 : (m == 2) = false := by simp; omega
  have k3 : (m == 3) = false := by simp; omega
  have k4 : (m == 4) = false := by simp; omega
  have k5 : (m == 5) = false := by simp; omega
  go_wp2_with fail
  refine hN _ _ ⟨2 * (n - (o)) + N + 1, by have := HGK.out; omega, o, S, true, _, ⟨rfl, rfl, rfl, rfl, rfl, rfl⟩, (by show _ ≤ n; omega), by rw [← HN.out]; omega, HST.out, HB.out, HOK.out, Or.inr ⟨rfl, HREST.out, by dsimp only; rw [← HN.out]⟩⟩

end Go.Proofs.Qxb6000697a

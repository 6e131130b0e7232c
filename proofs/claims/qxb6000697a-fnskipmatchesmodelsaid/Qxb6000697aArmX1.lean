/- A round's first half: no container, an array. -/
import Derived.Test.Qxb6000697aLoop
namespace Go.Proofs.Qxb6000697a
open Go.RowKit
set_option linter.unusedVariables false

set_option maxRecDepth 100000 in
set_option maxHeartbeats 1000000 in
theorem armX_nil (x : Cx) (hx : CxOk x) (gk : Nat) (a : Act) (wr : World) (p g cap : Nat) (b : Bool) (ha : FX a (.slice x.ao x.n x.c) (.int .i64 p) (.slice (some ⟨g, 0, none⟩) 0 cap) (.bool b) (.int .i64 (-1)))
    (hp : p ≤ x.n) (hS : Stk wr x.w.heap.size (.slice (some ⟨g, 0, none⟩) 0 cap) []) (hB : Below x.w.heap.size x.w wr) (hD : (b = false ∧ p = x.off ∧ gk = 2 * (x.n - p) + 2) ∨ (b = true ∧ x.R = some p))
    (K : Act → World → Prop) (Q : Exit → Act → World → Prop) (hK : ∀ a w, Mid x gk a w → K a w) (hC : ∀ a w, Cont x gk a w → Q (.exit 1) a w) (hQ : ∀ a w, Ret x a w → Q .ret a w) : Code.wp Try.prog (codeX Try.f13) (Exit.then K Q) a wr := by
  obtain ⟨w, ao, zs, n, c, off, R⟩ := x
  obtain ⟨hl, hbyt, hn, hdat, hans, hoff⟩ := hx
  simp only at *
  have HL : Hid (n = zs.length) := hl
  have HZ : Hid (Byt zs) := hbyt
  have HS : Hid (Dat w ao zs) := hdat
  have HR : Hid (R = itemF zs off) := hans
  clear hl hbyt hdat hans
  obtain ⟨u, rfl⟩ := ha.lit
  clear ha
  conv => arg 2; whnf
  have HST : Hid (Stk wr w.heap.size (.slice (some ⟨g, 0, none⟩) 0 cap) []) := hS
  have HB : Hid (Below w.heap.size w wr) := hB
  clear hS hB
  rcases hD with ⟨rfl, h1, h2⟩ | ⟨rfl, h1⟩
  · have HD2 : Hid (p = off ∧ gk = 2 * (n - p) + 2) := ⟨h1, h2⟩
    clear h1 h2
    go_wp2_with fail
    obtain ⟨h1, h2⟩ := HD2.out
    refine ⟨p, [], _, ⟨rfl, rfl, rfl, rfl, rfl, rfl⟩, hp, Nat.zero_le _, HST.out, HB.out, (by intro y hy; cases hy), ?_, by simp; omega⟩
    show thenF' zs [] (itemF zs p) = R
    rw [HR.out, h1]
    unfold thenF'
    cases itemF zs off <;> rfl
  · have HD2 : Hid (R = some p) := h1
    clear h1
    go_wp2_with fail
    refine ⟨rfl, p, true, rfl, rfl, ?_, ?_, HB.out⟩
    · show true = R.isSome; rw [HD2.out]; rfl
    · intro o ho; have ho2 : R = some o := ho; rw [HD2.out] at ho2; cases ho2; rfl

set_option maxRecDepth 100000 in
set_option maxHeartbeats 2000000 in
theorem armX_1 (x : Cx) (hx : CxOk x) (gk : Nat) (a : Act) (wr : World) (p g cap M : Nat) (l : Int) (od : Bool) (mj : Int) (S : List Fr) (ha : FX a (.slice x.ao x.n x.c) (.int .i64 p) (.slice (some ⟨g, 0, none⟩) (M + 1) cap) (.bool true) (.int .i64 M))
    (hp : p ≤ x.n) (hM : M = S.length) (hSp : M + 1 ≤ p) (hS : Stk wr x.w.heap.size (.slice (some ⟨g, 0, none⟩) (M + 1) cap) ((1, l, od, mj) :: S)) (hB : Below x.w.heap.size x.w wr) (hok : ∀ y ∈ ((1, l, od, mj) : Fr) :: S, FrOk y)
    (hD : denF x.zs ((1, l, od, mj) :: S) p = x.R) (hgk : gk = 2 * (x.n - p) + (M + 1) + 1)
    (K : Act → World → Prop) (Q : Exit → Act → World → Prop) (hK : ∀ a w, Mid x gk a w → K a w) (hC : ∀ a w, Cont x gk a w → Q (.exit 1) a w) (hQ : ∀ a w, Ret x a w → Q .ret a w) : Code.wp Try.prog (codeX Try.f13) (Exit.then K Q) a wr := by
  obtain ⟨w, ao, zs, n, c, off, R⟩ := x
  obtain ⟨hl, hbyt, hn, hdat, hans, hoff⟩ := hx
  simp only at *
  have HL : Hid (n = zs.length) := hl
  have HZ : Hid (Byt zs) := hbyt
  have HS : Hid (Dat w ao zs) := hdat
  have HR : Hid (R = itemF zs off) := hans
  clear hl hbyt hdat hans
  obtain ⟨u, rfl⟩ := ha.lit
  clear ha
  conv => arg 2; whnf
  have HM : Hid (M = S.length) := hM
  have HSTM : Hid (Stk wr w.heap.size (.slice (some ⟨g, 0, none⟩) (M + 1) cap) ((1, l, od, mj) :: S)) := hS
  have HB : Hid (Below w.heap.size w wr) := hB
  have HOK : Hid (∀ y ∈ ((1, l, od, mj) : Fr) :: S, FrOk y) := hok
  have HDD : Hid (denF zs ((1, l, od, mj) :: S) p = R) := hD
  have HGK : Hid (gk = 2 * (n - p) + (M + 1) + 1) := hgk
  obtain ⟨_, hl0, hl1, hmj0, hmj1⟩ := hok _ (List.mem_cons_self)
  simp only at hl0 hl1 hmj0 hmj1
  have htop := hS.top
  have hcp := hS.cap
  rw [← hM] at htop
  have d0 : wr.cell? ⟨g, M * 4, none⟩ = some (.int .i64 1) := htop.1 0 (by omega)
  have d1 : wr.cell? ⟨g, M * 4 + 1, none⟩ = some (.int .u64 l) := htop.1 1 (by omega)
  have d2 : wr.cell? ⟨g, M * 4 + 2, none⟩ = some (.bool od) := htop.1 2 (by omega)
  have d3 : wr.cell? ⟨g, M * 4 + 3, none⟩ = some (.int .u8 mj) := htop.1 3 (by omega)
  have e1 : wr.frozen? ⟨g, M * 4 + 1, none⟩ = false := htop.2 _
  have e2 : wr.frozen? ⟨g, M * 4 + 2, none⟩ = false := htop.2 _
  have hcap : M + 1 ≤ cap := hcp.2.1
  have hBg : w.heap.size ≤ g := hcp.2.2.1
  have HOK2 : Hid (∀ x ∈ S, FrOk x) := fun x hx => hok x (List.mem_cons_of_mem _ hx)
  have HP : Hid (Stk wr w.heap.size (.slice (some ⟨g, 0, none⟩) M cap) S) := by
    have := hS.pop
    rw [← hM] at this
    exact this
  clear htop hcp hM hS hB hok hD hgk
  by_cases hl : l = 0
  · subst hl
    go_wp2_with fail
    exact hC _ _ ⟨2 * (n - p) + M + 1, by rw [HGK.out]; omega, p, S, true, _, ⟨rfl, rfl, rfl, rfl, rfl, rfl⟩, hp, by rw [← HM.out]; omega, HP.out, HB.out, HOK2.out, Or.inr ⟨rfl, by rw [← HDD.out]; exact (den_arr0 zs od mj S p).symm, by rw [HM.out]⟩⟩
  · have hlz : (l == 0) = false := by simpa using hl
    have hl2 : 1 ≤ l := by omega
    have HEQ : Hid (denF zs ((1, l, od, mj) :: S) p = thenF' zs ((1, l - 1, od, mj) :: S) (itemF zs p)) := by
      have := den_arr zs (l - 1).toNat od mj S p
      rw [show (((l - 1).toNat : Nat) : Int) = l - 1 by omega, show l - 1 + 1 = l by omega] at this
      exact this
    have HN2 : Hid (Stk (wr.setCell ⟨g, M * 4 + 1, none⟩ (.int .u64 (l - 1))) w.heap.size (.slice (some ⟨g, 0, none⟩) (M + 1) cap) ((1, l - 1, od, mj) :: S)) := by
      have := HSTM.out.set 1 (.int .u64 (l - 1)) (y := (1, l - 1, od, mj)) rfl
      rw [← HM.out] at this
      exact this
    have HB2 : Hid (Below w.heap.size w (wr.setCell ⟨g, M * 4 + 1, none⟩ (.int .u64 (l - 1)))) := HB.out.setCell (p := ⟨g, M * 4 + 1, none⟩) hBg _
    clear hl
    go_wp2_with fail
    refine ⟨p, (1, l - 1, od, mj) :: S, _, ⟨rfl, rfl, rfl, rfl, rfl, rfl⟩, hp, by rw [List.length_cons, ← HM.out]; omega, ?_, HB2.out, ?_, ?_, by dsimp only; rw [HGK.out, List.length_cons, ← HM.out]; omega⟩
    · exact HN2.out
    · intro x hx
      rw [List.mem_cons] at hx
      rcases hx with rfl | hx
      · exact ⟨Or.inl rfl, by dsimp only; omega, by dsimp only; omega, by dsimp only; omega, by dsimp only; omega⟩
      · exact HOK2.out x hx
    · rw [← HDD.out]; exact HEQ.out.symm


end Go.Proofs.Qxb6000697a

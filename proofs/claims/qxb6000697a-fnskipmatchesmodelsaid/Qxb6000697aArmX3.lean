/- A round's first half: an array of open length. -/
import Derived.Test.Qxb6000697aLoop
namespace Go.Proofs.Qxb6000697a
open Go.RowKit
set_option linter.unusedVariables false

set_option maxRecDepth 100000 in
set_option maxHeartbeats 2000000 in
theorem armX_3 (x : Cx) (hx : CxOk x) (gk : Nat) (a : Act) (wr : World) (p g cap M : Nat) (l : Int) (od : Bool) (mj : Int) (S : List Fr) (ha : FX a (.slice x.ao x.n x.c) (.int .i64 p) (.slice (some ⟨g, 0, none⟩) (M + 1) cap) (.bool true) (.int .i64 M))
    (hp : p ≤ x.n) (hM : M = S.length) (hSp : M + 1 ≤ p) (hS : Stk wr x.w.heap.size (.slice (some ⟨g, 0, none⟩) (M + 1) cap) ((3, l, od, mj) :: S)) (hB : Below x.w.heap.size x.w wr) (hok : ∀ y ∈ ((3, l, od, mj) : Fr) :: S, FrOk y)
    (hD : denF x.zs ((3, l, od, mj) :: S) p = x.R) (hgk : gk = 2 * (x.n - p) + (M + 1) + 1)
    (K : Act → World → Prop) (Q : Exit → Act → World → Prop) (hK : ∀ a w, Mid x gk a w → K a w) (hC : ∀ a w, Cont x gk a w → Q (.exit 1) a w) (hQ : ∀ a w, Ret x a w → Q .ret a w) : Code.wp Try.prog (codeX Try.f13) (Exit.then K Q) a wr := by
  obtain ⟨w, ao, zs, n, c, off, R⟩ := x
  obtain ⟨hl, hbyt, hn, hdat, hans, hoff⟩ := hx
  simp only at *
  have HL : Hid (n = zs.length) := hl
  have HZ : Hid (Byt zs) := hbyt
  have HS : Hid (Dat w ao zs) := hdat
  have HR : Hid (R = itemF zs off) := hans
  clear hl hbyt hdat hans
  obtain ⟨u, rfl⟩ := ha.lit
  clear ha
  conv => arg 2; whnf
  have HM : Hid (M = S.length) := hM
  have HSTM : Hid (Stk wr w.heap.size (.slice (some ⟨g, 0, none⟩) (M + 1) cap) ((3, l, od, mj) :: S)) := hS
  have HB : Hid (Below w.heap.size w wr) := hB
  have HOK : Hid (∀ y ∈ ((3, l, od, mj) : Fr) :: S, FrOk y) := hok
  have HDD : Hid (denF zs ((3, l, od, mj) :: S) p = R) := hD
  have HGK : Hid (gk = 2 * (n - p) + (M + 1) + 1) := hgk
  obtain ⟨_, hl0, hl1, hmj0, hmj1⟩ := hok _ (List.mem_cons_self)
  simp only at hl0 hl1 hmj0 hmj1
  have htop := hS.top
  have hcp := hS.cap
  rw [← hM] at htop
  have d0 : wr.cell? ⟨g, M * 4, none⟩ = some (.int .i64 3) := htop.1 0 (by omega)
  have d1 : wr.cell? ⟨g, M * 4 + 1, none⟩ = some (.int .u64 l) := htop.1 1 (by omega)
  have d2 : wr.cell? ⟨g, M * 4 + 2, none⟩ = some (.bool od) := htop.1 2 (by omega)
  have d3 : wr.cell? ⟨g, M * 4 + 3, none⟩ = some (.int .u8 mj) := htop.1 3 (by omega)
  have e1 : wr.frozen? ⟨g, M * 4 + 1, none⟩ = false := htop.2 _
  have e2 : wr.frozen? ⟨g, M * 4 + 2, none⟩ = false := htop.2 _
  have hcap : M + 1 ≤ cap := hcp.2.1
  have hBg : w.heap.size ≤ g := hcp.2.2.1
  have HOK2 : Hid (∀ x ∈ S, FrOk x) := fun x hx => hok x (List.mem_cons_of_mem _ hx)
  have HP : Hid (Stk wr w.heap.size (.slice (some ⟨g, 0, none⟩) M cap) S) := by
    have := hS.pop
    rw [← hM] at this
    exact this
  clear htop hcp hM hS hB hok hD hgk
  have HAT : Hid (Calls Try.prog 26 #[.slice ao n c, .int .i64 p] wr fun e w' => e = .returned (.bool (decide (p < zs.length ∧ zs.getD p 0 = 255))) ∧ wr = w') := by
    have := atstop_any wr ao zs c p (HS.out.below HB.out) (by rw [← HL.out]; omega)
    rw [← HL.out] at this
    rw [← HL.out]
    refine this.mono ?_
    rintro e w' ⟨h1, h2⟩; exact ⟨h1, h2.symm⟩
  by_cases hst : p < zs.length ∧ zs.getD p 0 = 255
  · have HT : Hid (p < zs.length ∧ zs.getD p 0 = 255) := hst
    have hpn : p < n := by rw [HL.out]; exact hst.1
    have HAT2 : Hid (Calls Try.prog 26 #[.slice ao n c, .int .i64 p] wr fun e w' => e = .returned (.bool true) ∧ wr = w') := by
      have := HAT.out
      rw [decide_eq_true hst] at this
      exact this
    clear hst HAT
    go_wp2_with fail
    refine HAT2.out.mono ?_
    rintro e w2 ⟨rfl, rfl⟩
    clear HAT2
    go_wp2_with fail
    exact hC _ _ ⟨2 * (n - (p + 1)) + M + 1, by rw [HGK.out]; omega, p + 1, S, true, _, ⟨rfl, rfl, rfl, rfl, rfl, rfl⟩, hpn, by rw [← HM.out]; omega, HP.out, HB.out, HOK2.out, Or.inr ⟨rfl, by rw [← HDD.out]; exact (den_arri_stop HZ.out l od mj S p HT.out).symm, by rw [HM.out]⟩⟩
  · have HT : Hid (¬ (p < zs.length ∧ zs.getD p 0 = 255)) := hst
    have HAT2 : Hid (Calls Try.prog 26 #[.slice ao n c, .int .i64 p] wr fun e w' => e = .returned (.bool false) ∧ wr = w') := by
      have := HAT.out
      rw [decide_eq_false hst] at this
      exact this
    clear hst HAT
    go_wp2_with fail
    refine HAT2.out.mono ?_
    rintro e w2 ⟨rfl, rfl⟩
    clear HAT2
    go_wp2_with fail
    refine ⟨p, (3, l, od, mj) :: S, _, ⟨rfl, rfl, rfl, rfl, rfl, rfl⟩, hp, by rw [List.length_cons, ← HM.out]; omega, ?_, HB.out, ?_, ?_, by dsimp only; rw [HGK.out, List.length_cons, ← HM.out]; omega⟩
    · exact HSTM.out
    · intro x hx
      rw [List.mem_cons] at hx
      rcases hx with rfl | hx
      · exact ⟨Or.inr (Or.inr (Or.inl rfl)), by dsimp only; omega, by dsimp only; omega, by dsimp only; omega, by dsimp only; omega⟩
      · exact HOK2.out x hx
    · rw [← HDD.out]; exact (den_arri HZ.out l od mj S p (by rw [← HL.out]; exact hp) HT.out).symm


end Go.Proofs.Qxb6000697a

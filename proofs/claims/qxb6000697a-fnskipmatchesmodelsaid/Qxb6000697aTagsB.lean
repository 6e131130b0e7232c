/- A round's second half: past the tags. -/
import Derived.Test.Qxb6000697aLoop
namespace Go.Proofs.Qxb6000697a
open Go.RowKit
set_option linter.unusedVariables false

set_option maxRecDepth 100000 in
set_option maxHeartbeats 2000000 in
theorem tagsB (x : Cx) (hx : CxOk x) (gk : Nat) (a : Act) (wc : World) (p : Nat) (S : List Fr) (v : Value) (m ar : Int) (i : Bool) (o : Int) (gd : Bool) (ha : FB a (.slice x.ao x.n x.c) (.int .i64 p) v (.bool true) (.int .u8 m) (.int .u64 ar) (.bool i) (.int .i64 o) (.bool gd))
    (hp : p ≤ x.n) (hSp : S.length ≤ p) (hS : Stk wc x.w.heap.size v S) (hB : Below x.w.heap.size x.w wc) (hok : ∀ y ∈ S, FrOk y) (hst : HdSt x.zs p m ar i o gd) (hth : thenF' x.zs S (itemF x.zs p) = x.R) (hgk : 2 * (x.n - p) + S.length + 1 ≤ gk)
    (K : Act → World → Prop) (Q : Exit → Act → World → Prop) (hK : ∀ a w, Past x gk a w → K a w) : Code.wp Try.prog (codeB Try.f13) (Exit.then K Q) a wc := by
  obtain ⟨w, ao, zs, n, c, off, R⟩ := x
  obtain ⟨hl, hbyt, hn, hdat, hans, hoff⟩ := hx
  simp only at *
  have HL : Hid (n = zs.length) := hl
  have HZ : Hid (Byt zs) := hbyt
  have HS : Hid (Dat w ao zs) := hdat
  clear hl hbyt hdat hans
  obtain ⟨u, rfl⟩ := ha.lit
  clear ha
  conv => arg 2; whnf
  have HST : Hid (Stk wc w.heap.size v S) := hS
  have HB : Hid (Below w.heap.size w wc) := hB
  have HOK : Hid (∀ y ∈ S, FrOk y) := hok
  have HSTT : Hid (HdSt zs p m ar i o gd) := hst
  have HTH : Hid (thenF' zs S (itemF zs p) = R) := hth
  have HGK : Hid (2 * (n - p) + S.length + 1 ≤ gk) := hgk
  have HSP : Hid (S.length ≤ p) := hSp
  obtain ⟨p0, HP0⟩ : ∃ p0, Hid (p0 = p) := ⟨_, rfl⟩
  rw [← HP0.out] at HGK HSP
  have hp0 : p0 ≤ p := by rw [HP0.out]; exact Nat.le_refl _
  clear hS hB hok hst hth hgk hSp HP0
  go_wp2_with fail
  go_loopg [6, 15, 16, 17, 18, 19] (n - p) (fun gi pos sm sa si so sg wr' => ∃ (p : Nat) (m a : Int) (i : Bool) (o : Int) (gd : Bool), pos = .int .i64 p ∧ p0 ≤ p ∧ p ≤ n ∧ sm = .int .u8 m ∧ sa = .int .u64 a ∧ si = .bool i ∧ so = .int .i64 o ∧ sg = .bool gd ∧ wc = wr' ∧ Hid (HdSt zs p m a i o gd) ∧ Hid (thenF' zs S (itemF zs p) = R) ∧ gi = n - p)
  case atStart => exact ⟨p, m, ar, i, o, gd, rfl, hp0, hp, rfl, rfl, rfl, rfl, rfl, rfl, HSTT, HTH, rfl⟩
  case round =>
    clear HSTT HTH hp hp0
    obtain ⟨p, m, ar, i, o, gd, rfl, hpp, hpn, rfl, rfl, rfl, rfl, rfl, rfl, HSTT, HTH, rfl⟩ := hrel
    rcases HSTT.out with ⟨rfl, hhd⟩ | ⟨rfl, hhd, rfl, rfl, rfl, rfl⟩
    · obtain ⟨o', rfl, hhd⟩ := hhd
      obtain ⟨t1, t2, t3, t4, t5, t6⟩ := headF_some HZ.out hhd
      rw [← HL.out] at t2
      by_cases h6 : m = 6
      · subst h6
        have hnx : thenF' zs S (itemF zs o') = R := by rw [← HTH.out]; exact (then_tag HZ.out S p (by rw [← HL.out]; exact hpn) hhd).symm
        have HNX : Hid (thenF' zs S (itemF zs o') = R) := hnx
        clear hnx hhd HTH HSTT
        go_wp2_with fail
        refine (rh_st wc ao zs n c o' HL.out HZ.out (by omega) (HS.out.below HB.out)).mono ?_
        rintro e w2 ⟨⟨m', a', i', q', gd', rfl, hstt⟩, rfl⟩
        have HSTT2 : Hid (HdSt zs o' m' a' i' q' gd') := hstt
        clear hstt
        go_wp2_with fail
        go_roundg (n - o')
        case measure => omega
        case rel => exact ⟨o', m', a', i', q', gd', rfl, by omega, t2, rfl, rfl, rfl, rfl, rfl, rfl, HSTT2, HNX, rfl⟩
      · have h6b : (m == 6) = false := by simpa using h6
        have H6 : Hid (m ≠ 6) := h6
        clear h6 hhd
        go_wp2_with fail
        refine ⟨p0, p, S, v, m, ar, i, o', true, ⟨rfl, rfl, rfl, rfl, rfl, rfl, rfl, rfl, rfl, rfl, rfl⟩, hpp, hpn, HSP.out, HST.out, HB.out, HOK.out, HSTT.out, fun h => H6.out h.2, HTH.out, HGK.out⟩
    · clear hhd
      go_wp2_with fail
      refine ⟨p0, p, S, v, 0, 0, false, p, false, ⟨rfl, rfl, rfl, rfl, rfl, rfl, rfl, rfl, rfl, rfl, rfl⟩, hpp, hpn, HSP.out, HST.out, HB.out, HOK.out, HSTT.out, (fun h => by cases h.1), HTH.out, HGK.out⟩

end Go.Proofs.Qxb6000697a

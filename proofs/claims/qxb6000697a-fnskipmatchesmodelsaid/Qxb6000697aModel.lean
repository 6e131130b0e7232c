/- The contract of zzModelSkip: the pieces of its loop joined. -/
import Derived.Test.Qxb6000697aArmX1
import Derived.Test.Qxb6000697aArmX2
import Derived.Test.Qxb6000697aArmX3
import Derived.Test.Qxb6000697aArmX4
import Derived.Test.Qxb6000697aArmX5
import Derived.Test.Qxb6000697aTagsB
import Derived.Test.Qxb6000697aArmZ1
import Derived.Test.Qxb6000697aArmZ2
import Derived.Test.Qxb6000697aArmZ3
import Derived.Test.Qxb6000697aArmZ4
namespace Go.Proofs.Qxb6000697a
open Go.RowKit
set_option linter.unusedVariables false

theorem allX (x : Cx) (hx : CxOk x) (gk : Nat) (a : Act) (wr : World) (p : Nat) (S : List Fr) (b : Bool) (v : Value) (t : Int) (ha : FX a (.slice x.ao x.n x.c) (.int .i64 p) v (.bool b) (.int .i64 t)) (ht : t = (S.length : Int) - 1)
    (hp : p ≤ x.n) (hSp : S.length ≤ p) (hS : Stk wr x.w.heap.size v S) (hB : Below x.w.heap.size x.w wr) (hok : ∀ y ∈ S, FrOk y)
    (hD : (b = false ∧ S = [] ∧ p = x.off ∧ gk = 2 * (x.n - p) + 2) ∨ (b = true ∧ denF x.zs S p = x.R ∧ gk = 2 * (x.n - p) + S.length + 1))
    (K : Act → World → Prop) (Q : Exit → Act → World → Prop) (hK : ∀ a w, Mid x gk a w → K a w) (hC : ∀ a w, Cont x gk a w → Q (.exit 1) a w) (hQ : ∀ a w, Ret x a w → Q .ret a w) :
    Code.wp Try.prog (codeX Try.f13) (Exit.then K Q) a wr := by
  obtain ⟨g, cap, rfl⟩ := hS.shape
  cases S with
  | nil =>
    obtain rfl : t = -1 := by simpa using ht
    refine armX_nil x hx gk a wr p g cap b ha hp hS hB ?_ K Q hK hC hQ
    rcases hD with ⟨h1, _, h2, h3⟩ | ⟨h1, h2, _⟩
    · exact Or.inl ⟨h1, h2, h3⟩
    · exact Or.inr ⟨h1, h2.symm⟩
  | cons y S =>
    obtain ⟨k, l, od, mj⟩ := y
    have hD2 : b = true ∧ denF x.zs ((k, l, od, mj) :: S) p = x.R ∧ gk = 2 * (x.n - p) + (S.length + 1) + 1 := by
      rcases hD with ⟨_, h, _⟩ | h
      · cases h
      · exact h
    obtain ⟨rfl, hDd, hgk⟩ := hD2
    obtain rfl : t = S.length := by rw [ht]; simp
    have hk := (hok _ (List.mem_cons_self)).1
    simp only at hk
    rcases hk with rfl | rfl | rfl | rfl | rfl
    · exact armX_1 x hx gk a wr p g cap S.length l od mj S ha hp rfl hSp hS hB hok hDd hgk K Q hK hC hQ
    · exact armX_2 x hx gk a wr p g cap S.length l od mj S ha hp rfl hSp hS hB hok hDd hgk K Q hK hC hQ
    · exact armX_3 x hx gk a wr p g cap S.length l od mj S ha hp rfl hSp hS hB hok hDd hgk K Q hK hC hQ
    · exact armX_4 x hx gk a wr p g cap S.length l od mj S ha hp rfl hSp hS hB hok hDd hgk K Q hK hC hQ
    · exact armX_5 x hx gk a wr p g cap S.length l od mj S ha hp rfl hSp hS hB hok hDd hgk K Q hK hC hQ

theorem allZ (x : Cx) (hx : CxOk x) (gk : Nat) (a : Act) (wc : World) (hP : Past x gk a wc)
    (Q : Exit → Act → World → Prop) (hN : ∀ a w, Cont x gk a w → Q .normal a w) (hQ : ∀ a w, Ret x a w → Q .ret a w) : Code.wp Try.prog (codeZ Try.f13) Q a wc := by
  obtain ⟨p0, p, S, v, m, ar, i, o, gd, ha, hpp, hpn, hSp, hS, hB, hok, hst, h6, hth, hgk⟩ := hP
  have hpl : p ≤ x.zs.length := by rw [← hx.len]; exact hpn
  rcases hst with ⟨rfl, o', rfl, hhd⟩ | ⟨rfl, hhd, rfl, rfl, rfl, rfl⟩
  · have hm6 : m ≠ 6 := fun h => h6 ⟨rfl, h⟩
    obtain ⟨t1, t2, t3, t4, t5, t6⟩ := headF_some hx.byt hhd
    rw [← hx.len] at t2
    have hr : restF x.zs S m ar i o' = x.R := by rw [← hth]; exact (then_rest hx.byt S p hpl hhd hm6).symm
    unfold restF at hr
    obtain ⟨g, cap, rfl⟩ := hS.shape
    by_cases c1 : m = 2 ∨ m = 3
    · rw [if_pos c1] at hr
      cases i with
      | true =>
        rw [if_pos rfl] at hr
        rcases c1 with rfl | rfl
        · exact armZ_s2 x hx gk a wc p0 p o' S g cap S.length 2 ar true ha hpp t1 t2 rfl hSp hS hB hok hgk t5 t6 t3 t4 hr Q hN hQ
        · exact armZ_s3 x hx gk a wc p0 p o' S g cap S.length 3 ar true ha hpp t1 t2 rfl hSp hS hB hok hgk t5 t6 t3 t4 hr Q hN hQ
      | false =>
        rw [if_neg (by decide)] at hr
        unfold advF at hr
        by_cases hov : ar ≤ (x.zs.length : Int) - o'
        · rw [if_pos hov] at hr
          rw [← hx.len] at hov
          replace hr : denF x.zs S (o' + ar.toNat) = x.R := hr
          rcases c1 with rfl | rfl
          · exact armZ_f2 x hx gk a wc p0 p o' S g cap S.length 2 ar false ha hpp t1 t2 rfl hSp hS hB hok hgk t5 t6 t3 t4 hov hr Q hN hQ
          · exact armZ_f3 x hx gk a wc p0 p o' S g cap S.length 3 ar false ha hpp t1 t2 rfl hSp hS hB hok hgk t5 t6 t3 t4 hov hr Q hN hQ
        · rw [if_neg hov] at hr
          rw [← hx.len] at hov
          replace hr : x.R = none := hr.symm
          rcases c1 with rfl | rfl
          · exact armZ_o2 x hx gk a wc p0 p o' S g cap S.length 2 ar false ha hpp t1 t2 rfl hSp hS hB hok hgk t5 t6 t3 t4 hov hr Q hN hQ
          · exact armZ_o3 x hx gk a wc p0 p o' S g cap S.length 3 ar false ha hpp t1 t2 rfl hSp hS hB hok hgk t5 t6 t3 t4 hov hr Q hN hQ
    rw [if_neg c1] at hr
    by_cases c2 : m = 4
    · rw [if_pos c2] at hr
      subst c2
      cases i with
      | true => rw [if_pos rfl] at hr; exact armZ_ai x hx gk a wc p0 p o' S g cap S.length 4 ar true ha hpp t1 t2 rfl hSp hS hB hok hgk t5 t6 t3 t4 hr Q hN hQ
      | false => rw [if_neg (by decide)] at hr; exact armZ_a x hx gk a wc p0 p o' S g cap S.length 4 ar false ha hpp t1 t2 rfl hSp hS hB hok hgk t5 t6 t3 t4 hr Q hN hQ
    rw [if_neg c2] at hr
    by_cases c3 : m = 5
    · rw [if_pos c3] at hr
      subst c3
      cases i with
      | true => rw [if_pos rfl] at hr; exact armZ_mi x hx gk a wc p0 p o' S g cap S.length 5 ar true ha hpp t1 t2 rfl hSp hS hB hok hgk t5 t6 t3 t4 hr Q hN hQ
      | false => rw [if_neg (by decide)] at hr; exact armZ_m x hx gk a wc p0 p o' S g cap S.length 5 ar false ha hpp t1 t2 rfl hSp hS hB hok hgk t5 t6 t3 t4 hr Q hN hQ
    rw [if_neg c3] at hr
    exact armZ_p x hx gk a wc p0 p o' S g cap S.length m ar i ha hpp t1 t2 rfl hSp hS hB hok hgk t5 t6 t3 t4 (by omega) hr Q hN hQ
  · have hr : x.R = none := by rw [← hth]; exact then_none hx.byt S p hpl hhd
    exact armZ_bad x hx gk a wc p v 0 0 false p ha hB hr Q hN hQ

set_option maxRecDepth 100000 in
set_option maxHeartbeats 2000000 in
theorem allY (x : Cx) (hx : CxOk x) (gk : Nat) (a : Act) (wc : World) (hM : Mid x gk a wc)
    (Q : Exit → Act → World → Prop) (hN : ∀ a w, Cont x gk a w → Q .normal a w) (hQ : ∀ a w, Ret x a w → Q .ret a w) : Code.wp Try.prog (codeY Try.f13) Q a wc := by
  have HBt := tagsB x hx gk
  have HZt : ∀ a w, Past x gk a w → Code.wp Try.prog (codeZ Try.f13) Q a w := fun a w h => allZ x hx gk a w h Q hN hQ
  obtain ⟨p, S, v, ha, hp, hSp, hS, hB, hok, hth, hgk⟩ := hM
  have HA : Hid (∀ (a : Act) (m ar : Int) (i : Bool) (o : Int) (gd : Bool), FB a (.slice x.ao x.n x.c) (.int .i64 p) v (.bool true) (.int .u8 m) (.int .u64 ar) (.bool i) (.int .i64 o) (.bool gd) → HdSt x.zs p m ar i o gd → Code.wp Try.prog (Code.seq (codeB Try.f13) (codeZ Try.f13)) Q a wc) := by
    intro a m ar i o gd hFB hst
    exact wp_seq (HBt a wc p S v m ar i o gd hFB hp hSp hS hB hok hst hth hgk _ Q HZt)
  have HRH := rh_st wc x.ao x.zs x.n x.c p hx.len hx.byt (by have := hx.small; omega) (hx.dat.below hB)
  obtain ⟨w, ao, zs, n, c, off, R⟩ := x
  simp only at *
  have HRH2 : Hid (Calls Try.prog 27 #[.slice ao n c, .int .i64 p] wc fun e w' => (∃ m a i o gd, e = .returned (.tuple #[.int .u8 m, .int .u64 a, .bool i, .int .i64 o, .bool gd]) ∧ HdSt zs p m a i o gd) ∧ wc = w') := HRH
  clear HRH HBt HZt hS hB hok hth hgk hN hQ hp hSp hx
  obtain ⟨u, rfl⟩ := ha.lit
  clear ha
  conv => arg 2; whnf
  refine wp_seq_k (fun K0 hK0 => ?_)
  have HK0 : Hid (∀ a w, Code.wp Try.prog (Code.seq (codeB Try.f13) (codeZ Try.f13)) Q a w → K0 a w) := hK0
  clear hK0
  go_wp2_with fail
  refine HRH2.out.mono ?_
  rintro e w2 ⟨⟨m, ar, i, o, gd, rfl, hst⟩, rfl⟩
  have HST : Hid (HdSt zs p m ar i o gd) := hst
  clear hst
  go_wp2_with fail
  exact HK0.out _ _ (HA.out _ m ar i o gd ⟨rfl, rfl, rfl, rfl, rfl, rfl, rfl, rfl, rfl, rfl, rfl⟩ HST.out)

set_option maxRecDepth 100000 in
set_option maxHeartbeats 2000000 in
theorem round13 (x : Cx) (hx : CxOk x) (gk : Nat) (a : Act) (wr : World) (hI : MI x gk a wr) (Q : Exit → Act → World → Prop) (hQ : ∀ a w, Ret x a w → Q .ret a w) :
    Code.wp Try.prog (bodyOf Try.f13) (Exit.then (fun a' w' => ∃ k, k < gk ∧ MI x k a' w') Q) a wr := by
  obtain ⟨p, S, b, v, ha, hp, hSp, hS, hB, hok, hD⟩ := hI
  have HA : Hid (∀ (a : Act) (t : Int), FX a (.slice x.ao x.n x.c) (.int .i64 p) v (.bool b) (.int .i64 t) → t = (S.length : Int) - 1 → Code.wp Try.prog (Code.seq (codeX Try.f13) (codeY Try.f13)) (Exit.inBlock 1 (Exit.then (fun a' w' => ∃ k, k < gk ∧ MI x k a' w') Q)) a wr) := by
    intro a t hFX ht
    refine wp_seq (allX x hx gk a wr p S b v t hFX ht hp hSp hS hB hok hD _ _ (fun a w h => allY x hx gk a w h _ (fun a w h => h) (fun a w h => hQ a w h)) (fun a w h => ?_) (fun a w h => hQ a w h))
    simp only [Exit.inBlock, if_true, Exit.then]
    exact h
  obtain ⟨g, cap, hv⟩ := hS.shape
  obtain ⟨N, hN⟩ : ∃ N, N = S.length := ⟨_, rfl⟩
  have HN : Hid (N = S.length) := hN
  have hSn : N ≤ 1048576 := by have := hx.small; omega
  rw [← hN] at hv
  subst hv
  clear hS hB hok hD hQ hp hSp hx hN
  obtain ⟨w, ao, zs, n, c, off, R⟩ := x
  simp only at *
  obtain ⟨u, rfl⟩ := ha.lit
  clear ha
  conv => arg 2; whnf
  refine wp_block ?_
  refine wp_seq_k (fun K0 hK0 => ?_)
  have HK0 : Hid (∀ a w', Code.wp Try.prog (Code.seq (codeX Try.f13) (codeY Try.f13)) (Exit.inBlock 1 (Exit.then (fun a' w' => ∃ k, k < gk ∧ MI { w := w, ao := ao, zs := zs, n := n, c := c, off := off, R := R } k a' w') Q)) a w' → K0 a w') := hK0
  clear hK0
  go_wp2_with fail
  exact HK0.out _ _ (HA.out _ _ ⟨rfl, rfl, rfl, rfl, rfl, rfl, rfl⟩ (by rw [← HN.out]))

set_option maxRecDepth 100000 in
set_option maxHeartbeats 2000000 in
theorem model_any (w : World) (ao : Option Addr) (zs : List Int) (c off : Nat) (hZ : Byt zs) (hn : zs.length ≤ 1048576) (hs : Dat w ao zs) (hoff : off ≤ zs.length) :
    Calls Try.prog 13 #[.slice ao zs.length c, .int .i64 off] w fun e w' => (∃ y ok, e = .returned (.tuple #[.int .i64 y, .bool ok]) ∧ ok = (itemF zs off).isSome ∧ ∀ o, itemF zs off = some o → y = (o : Int)) ∧ Below w.heap.size w w' := by
  obtain ⟨i0, hi, hz0, hz1, hz2⟩ := info_parts Try.info47
  obtain ⟨n, hl⟩ : ∃ n, n = zs.length := ⟨_, rfl⟩
  obtain ⟨R, hR⟩ : ∃ R, R = itemF zs off := ⟨_, rfl⟩
  have HX : Hid (CxOk { w := w, ao := ao, zs := zs, n := n, c := c, off := off, R := R }) := ⟨hl, hZ, by rw [hl]; exact hn, hs, hR, by rw [hl]; exact hoff⟩
  rw [← hR, ← hl]
  rw [← hl] at hn hoff
  clear hl hR hZ hs
  go_enter Try.func13, Try.ntmps13
  go_wp2_with (at_make; refine wpList_make_own _ rfl _ _ 45 rfl w.heap.size 47 i0 (.agg #[.int .i64 0, .int .u64 0, .bool false, .int .u8 0]) 4 Try.underlying45 hi hz0 hz1 _ _ _ 8 rfl rfl ?c0 ?c1 ?c2 ?c3 ?_)
  case c0 => rfl
  case c1 => rw [hz2]; omega
  case c2 => unfold maxLen; omega
  case c3 => exact Nat.le_refl _
  intro w1 hown hgrow
  have hb1 : Below w.heap.size w w1 := (Below.refl _ _).grown hgrow (Nat.le_refl _) (fun k hk => by cases hk)
  have HS0 : Hid (Stk w1 w.heap.size (.slice (some ⟨w.heap.size, 0, none⟩) 0 8) []) := ⟨⟨_, _, rfl⟩, hown⟩
  clear hown hgrow
  go_wp2_with fail
  refine wp_loop_ghost (c := bodyOf Try.f13) (MI { w := w, ao := ao, zs := zs, n := n, c := c, off := off, R := R }) (2 * (n - off) + 2) ?_ (fun k a w' hI => round13 _ HX.out k a w' hI _ ?_)
  · exact ⟨off, [], false, _, ⟨rfl, rfl, rfl, rfl, rfl, rfl⟩, hoff, Nat.zero_le _, HS0.out, hb1, (by intro y hy; cases hy), Or.inl ⟨rfl, rfl, rfl, rfl⟩⟩
  · intro a w' hret
    obtain ⟨hd, y, ok, h4, h5, h6, h7, h8⟩ := hret
    simp only [Exit.inBlock]
    refine bodyPost_ret (v := .tuple #[.int .i64 y, .bool ok]) ?_ hd ⟨⟨y, ok, rfl, h6, h7⟩, h8⟩
    have := results_tmp2 (fn := Try.f13) (t := 4) (u := 5) rfl a.tmps Try.prog w'
    rw [h4, h5] at this
    exact this

end Go.Proofs.Qxb6000697a

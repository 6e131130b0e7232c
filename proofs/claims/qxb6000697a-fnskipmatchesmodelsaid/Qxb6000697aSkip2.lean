/- The method skip: arrays and maps. -/
import Derived.Test.Qxb6000697aSkip1
import Derived.Deep.LoopGhost
namespace Go.Proofs.Qxb6000697a
open Go.RowKit
set_option linter.unusedVariables false

theorem more_def_t (w : World) (b : Nat) (ao : Option Addr) (n c : Nat) (off : Int) (m a : Int) (k : Int) (h : Rd w b ao n c off true) (hk : k < a) :
    Calls Try.prog 31 #[.pointer (some ⟨b, 0, none⟩), .agg #[.int .u8 m, .int .u64 a, .bool false], .int .u64 k] w fun e w' => e = .returned (.bool true) ∧ Rd w' b ao n c off true ∧ w.grownBy w' (some b) := by
  have := more_def w b ao n c off m a k h
  rw [decide_eq_true hk] at this
  exact this
theorem more_def_f (w : World) (b : Nat) (ao : Option Addr) (n c : Nat) (off : Int) (m a : Int) (k : Int) (h : Rd w b ao n c off true) (hk : ¬ k < a) :
    Calls Try.prog 31 #[.pointer (some ⟨b, 0, none⟩), .agg #[.int .u8 m, .int .u64 a, .bool false], .int .u64 k] w fun e w' => e = .returned (.bool false) ∧ Rd w' b ao n c off true ∧ w.grownBy w' (some b) := by
  have := more_def w b ao n c off m a k h
  rw [decide_eq_false hk] at this
  exact this


def thenF (f : Nat → Option Nat) : Option Nat → Option Nat
  | none => none
  | some o => f o
theorem thenF_two (f : Nat → Option Nat) (o : Nat) : thenF f (f o) = twoF f o := by unfold twoF; cases f o <;> rfl

theorem skip_next (b : Nat) (ao : Option Addr) (zs : List Int) (c lo : Nat) (f : Nat → Option Nat) (hI : Hid (Inner b ao zs c lo f)) (r : Option Nat) (hr : ∀ o, r = some o → lo < o ∧ o ≤ zs.length) (w : World) (hO : Out w b ao zs.length c r) (hs : Src w b ao zs) :
    Calls Try.prog 25 #[.pointer (some ⟨b, 0, none⟩)] w fun e w' => e = .returned (.tuple #[]) ∧ w.grownBy w' (some b) ∧ Out w' b ao zs.length c (thenF f r) := by
  cases r with
  | none => obtain ⟨x, hx⟩ := hO; exact skip_failed w b ao _ c x hx
  | some o => exact hI.out w o hO hs (hr o rfl).1 (hr o rfl).2

set_option maxHeartbeats 800000 in
theorem skip_arr (w : World) (b : Nat) (ao : Option Addr) (zs : List Int) (c off : Nat) (a : Int) (o : Nat) (f : Nat → Option Nat) (hZ : Byt zs) (hn : zs.length ≤ 1099511627776) (hnc : zs.length ≤ c) (h : Rd w b ao zs.length c off true) (hs : Src w b ao zs) (hF : headF zs off = some (4, a, false, o))
    (hI : Hid (Inner b ao zs c off f)) (hf : Hid (Goes zs f)) :
    Calls Try.prog 25 #[.pointer (some ⟨b, 0, none⟩)] w fun e w' => e = .returned (.tuple #[]) ∧ w.grownBy w' (some b) ∧ Out w' b ao zs.length c (iterF f a.toNat o) := by
  obtain ⟨q1, q2, q3, q4, q5, q6⟩ := headF_some hZ hF
  have hbw := h.facts.2.2.2.2.2
  obtain ⟨A, rfl⟩ : ∃ A : Nat, a = A := ⟨a.toNat, by omega⟩
  obtain ⟨R, HR⟩ : ∃ R, Hid (R = iterF f (A : Int).toNat o) := ⟨_, rfl⟩
  have HH : Hid (Calls Try.prog 28 #[.pointer (some ⟨b, 0, none⟩)] w fun e w' => e = .returned (.agg #[.int .u8 4, .int .u64 A, .bool false]) ∧ Rd w' b ao zs.length c o true ∧ w.grownBy w' (some b)) := head_some w b ao zs c off 4 A false o hZ hn hnc h hs hF
  have HS : Hid (Src w b ao zs) := hs
  rw [← HR.out]
  clear hF h hs hZ
  go_enter Try.func25, Try.ntmps25
  go_wp2_with fail
  refine HH.out.mono ?_
  rintro e w1 ⟨rfl, hR, hg⟩
  have HR1 : Hid (Rd w1 b ao zs.length c o true) := hR
  have hsz := hg.size
  clear HH hR
  go_wp2_with fail
  go_loopg [5] (A + 1) (fun gk i wr => ∃ j : Nat, j ≤ A ∧ i = .int .u64 j ∧ Hid (Hd wr w1.heap.size 4 A false) ∧ Hid (w.grownBy wr (some b)) ∧
     Hid ((∃ oo, Rd wr b ao zs.length c ((oo : Nat) : Int) true ∧ off < oo ∧ oo ≤ zs.length ∧ iterF f (A - j) oo = R ∧ gk = A - j + 1) ∨ ((∃ x, Rd wr b ao zs.length c x false) ∧ R = none ∧ gk = 0)))
  case atStart => exact ⟨0, Nat.zero_le _, rfl, Hd.born _ _ rfl _ _ _, gb_alloc hg _, Or.inl ⟨o, HR1.out.alloc _, by omega, q2, by rw [HR.out]; rfl, rfl⟩⟩
  case round =>
    clear HR1 hg
    obtain ⟨j, hj, rfl, HHd, HG, HD⟩ := hrel
    obtain ⟨m0, m1, m2, p0, p1, p2, hm5⟩ := HHd.out.facts
    have hne : w1.heap.size ≠ b := by omega
    rcases HD.out with ⟨oo, hRd, ho1, ho2, hit, hgk⟩ | ⟨⟨x, hRd⟩, hRn, hgk⟩
    · have HX : Hid (Rd wr b ao zs.length c oo true ∧ iterF f (A - j) oo = R ∧ gk = A - j + 1) := ⟨hRd, hit, hgk⟩
      clear hRd hit hgk HD
      by_cases hlt : j < A
      · go_wp2_with fail
        refine (more_def_t _ b ao zs.length c oo 4 A j HX.out.1 (by omega)).mono ?_
        rintro e w2 ⟨rfl, hR2, hg2⟩
        have HS2 : Src w2 b ao zs := HS.out.grown (gb_trans HG.out hg2)
        go_wp2_with fail
        refine (hI.out w2 oo hR2 HS2 ho1 ho2).mono ?_
        rintro e w3 ⟨rfl, hg3, hO⟩
        have HO : Hid (Out w3 b ao zs.length c (f oo)) := hO
        have HG3 : Hid (w.grownBy w3 (some b)) := gb_trans (gb_trans HG.out hg2) hg3
        have HH3 : Hid (Hd w3 w1.heap.size 4 A false) := (HHd.out.grown hg2 (by simpa using hne)).grown hg3 (by simpa using hne)
        clear hO hR2 HS2 hg2 hg3
        go_wp2_with fail
        obtain ⟨-, hit, hgk⟩ := HX.out
        have hsub : A - j = (A - (j + 1)) + 1 := by omega
        rw [hsub, iterF] at hit
        cases hfo : f oo with
        | none =>
          rw [hfo] at hit
          have hO := HO.out
          rw [hfo] at hO
          go_roundg 0
          case measure => omega
          case rel => exact ⟨j + 1, by omega, by go_num, HH3, HG3, Or.inr ⟨hO, hit.symm, rfl⟩⟩
        | some o2 =>
          rw [hfo] at hit
          have hO := HO.out
          rw [hfo] at hO
          have hgo := hf.out _ _ hfo
          go_roundg (A - (j + 1) + 1)
          case measure => omega
          case rel => exact ⟨j + 1, by omega, by go_num, HH3, HG3, Or.inl ⟨o2, hO, by omega, hgo.2, hit, rfl⟩⟩
      · go_wp2_with fail
        refine (more_def_f _ b ao zs.length c oo 4 A j HX.out.1 (by omega)).mono ?_
        rintro e w2 ⟨rfl, hR2, hg2⟩
        go_wp2_with fail
        go_end0
        refine ⟨rfl, gb_trans HG.out hg2, ?_⟩
        have hit := HX.out.2.1
        rw [show A - j = 0 by omega, iterF] at hit
        rw [← hit]; exact hR2
    · have HX : Hid (Rd wr b ao zs.length c x false ∧ R = none) := ⟨hRd, hRn⟩
      clear hRd hRn hgk HD
      go_wp2_with fail
      refine (more_failed _ b ao zs.length c x 4 A false j HX.out.1).mono ?_
      rintro e w2 ⟨rfl, hR2, hg2⟩
      go_wp2_with fail
      go_end0
      refine ⟨rfl, gb_trans HG.out hg2, ?_⟩
      rw [HX.out.2]; exact ⟨_, hR2⟩
set_option maxHeartbeats 800000 in
theorem skip_arri (w : World) (b : Nat) (ao : Option Addr) (zs : List Int) (c off : Nat) (a : Int) (o : Nat) (f : Nat → Option Nat) (hZ : Byt zs) (hn : zs.length ≤ 1099511627776) (hnc : zs.length ≤ c) (h : Rd w b ao zs.length c off true) (hs : Src w b ao zs) (hF : headF zs off = some (4, a, true, o))
    (hI : Hid (Inner b ao zs c off f)) (hf : Hid (Goes zs f)) :
    Calls Try.prog 25 #[.pointer (some ⟨b, 0, none⟩)] w fun e w' => e = .returned (.tuple #[]) ∧ w.grownBy w' (some b) ∧ Out w' b ao zs.length c (untilF zs f (zs.length + 1) o) := by
  obtain ⟨q1, q2, q3, q4, q5, q6⟩ := headF_some hZ hF
  have hbw := h.facts.2.2.2.2.2
  obtain ⟨A, rfl⟩ : ∃ A : Nat, a = A := ⟨a.toNat, by omega⟩
  obtain ⟨R, HR⟩ : ∃ R, Hid (R = untilF zs f (zs.length + 1) o) := ⟨_, rfl⟩
  have HH : Hid (Calls Try.prog 28 #[.pointer (some ⟨b, 0, none⟩)] w fun e w' => e = .returned (.agg #[.int .u8 4, .int .u64 A, .bool true]) ∧ Rd w' b ao zs.length c o true ∧ w.grownBy w' (some b)) := head_some w b ao zs c off 4 A true o hZ hn hnc h hs hF
  have HS : Hid (Src w b ao zs) := hs
  rw [← HR.out]
  clear hF h hs hZ
  go_enter Try.func25, Try.ntmps25
  go_wp2_with fail
  refine HH.out.mono ?_
  rintro e w1 ⟨rfl, hR, hg⟩
  have HR1 : Hid (Rd w1 b ao zs.length c o true) := hR
  have hsz := hg.size
  clear HH hR
  go_wp2_with fail
  go_loopg [5] (zs.length + 1) (fun gk i wr => ∃ j : Int, i = .int .u64 j ∧ Hid (Hd wr w1.heap.size 4 A true) ∧ Hid (w.grownBy wr (some b)) ∧
     Hid ((∃ oo, Rd wr b ao zs.length c ((oo : Nat) : Int) true ∧ off < oo ∧ oo ≤ zs.length ∧ untilF zs f gk oo = R ∧ zs.length < oo + gk) ∨ ((∃ x, Rd wr b ao zs.length c x false) ∧ R = none ∧ gk = 0)))
  case atStart => exact ⟨0, rfl, Hd.born _ _ rfl _ _ _, gb_alloc hg _, Or.inl ⟨o, HR1.out.alloc _, by omega, q2, by rw [HR.out], by omega⟩⟩
  case round =>
    clear HR1 hg
    obtain ⟨j, rfl, HHd, HG, HD⟩ := hrel
    obtain ⟨m0, m1, m2, p0, p1, p2, hm5⟩ := HHd.out.facts
    have hne : w1.heap.size ≠ b := by omega
    rcases HD.out with ⟨oo, hRd, ho1, ho2, hit, hgk⟩ | ⟨⟨x, hRd⟩, hRn, hgk⟩
    · obtain ⟨u, rfl⟩ : ∃ u, gk = u + 1 := ⟨gk - 1, by omega⟩
      have HX : Hid (Rd wr b ao zs.length c oo true ∧ untilF zs f (u + 1) oo = R) := ⟨hRd, hit⟩
      clear hRd hit HD
      by_cases hst : oo < zs.length ∧ zs.getD oo 0 = 255
      · obtain ⟨g, rfl, hcell⟩ : ∃ g, ao = some ⟨g, 0, none⟩ ∧ wr.cell? ⟨g, oo, none⟩ = some (.int .u8 255) := by
          rcases HS.out.grown HG.out with h0 | ⟨g, e, _, hB⟩
          · omega
          · exact ⟨g, e, by rw [hB oo hst.1, hst.2]⟩
        have HT : Hid (oo < zs.length ∧ zs.getD oo 0 = 255) := hst
        clear hst
        go_wp2_with fail
        refine (more_stop _ b g zs.length c oo 4 A j HX.out.1 HT.out.1 hn hcell).mono ?_
        rintro e w2 ⟨rfl, hR2, hg2⟩
        go_wp2_with fail
        go_end0
        refine ⟨rfl, gb_trans HG.out hg2, ?_⟩
        have hit := HX.out.2
        rw [untilF, if_pos HT.out] at hit
        rw [← hit]; exact hR2.cast (by omega)
      · have HM : Hid (∀ k, Calls Try.prog 31 #[.pointer (some ⟨b, 0, none⟩), .agg #[.int .u8 4, .int .u64 A, .bool true], .int .u64 k] wr fun e w' => e = .returned (.bool true) ∧ Rd w' b ao zs.length c oo true ∧ wr.grownBy w' (some b)) := by
          intro k
          by_cases hlt : oo < zs.length
          · rcases HS.out.grown HG.out with h0 | ⟨g, e, _, hB⟩
            · omega
            · have hX := HX.out.1
              rw [e] at hX ⊢
              exact more_on _ b g zs.length c oo 4 A k (zs.getD oo 0) hX hlt hn (hB oo hlt) (by simpa using fun e' => hst ⟨hlt, e'⟩)
          · exact more_end _ b ao zs.length c oo 4 A k HX.out.1 (by omega)
        have HT : Hid (¬ (oo < zs.length ∧ zs.getD oo 0 = 255)) := hst
        clear hst
        go_wp2_with fail
        refine (HM.out _).mono ?_
        rintro e w2 ⟨rfl, hR2, hg2⟩
        have HS2 : Src w2 b ao zs := HS.out.grown (gb_trans HG.out hg2)
        clear HM
        go_wp2_with fail
        refine (hI.out w2 oo hR2 HS2 ho1 ho2).mono ?_
        rintro e w3 ⟨rfl, hg3, hO⟩
        have HO : Hid (Out w3 b ao zs.length c (f oo)) := hO
        have HG3 : Hid (w.grownBy w3 (some b)) := gb_trans (gb_trans HG.out hg2) hg3
        have HH3 : Hid (Hd w3 w1.heap.size 4 A true) := (HHd.out.grown hg2 (by simpa using hne)).grown hg3 (by simpa using hne)
        clear hO hR2 HS2 hg2 hg3
        go_wp2_with fail
        have hit := HX.out.2
        rw [untilF, if_neg HT.out] at hit
        cases hfo : f oo with
        | none =>
          rw [hfo] at hit
          have hO := HO.out
          rw [hfo] at hO
          go_roundg 0
          case measure => omega
          case rel => exact ⟨_, rfl, HH3, HG3, Or.inr ⟨hO, hit.symm, rfl⟩⟩
        | some o2 =>
          rw [hfo] at hit
          have hO := HO.out
          rw [hfo] at hO
          have hgo := hf.out _ _ hfo
          go_roundg u
          case measure => omega
          case rel => exact ⟨_, rfl, HH3, HG3, Or.inl ⟨o2, hO, by omega, hgo.2, hit, by omega⟩⟩
    · have HX : Hid (Rd wr b ao zs.length c x false ∧ R = none) := ⟨hRd, hRn⟩
      clear hRd hRn hgk HD
      go_wp2_with fail
      refine (more_failed _ b ao zs.length c x 4 A true j HX.out.1).mono ?_
      rintro e w2 ⟨rfl, hR2, hg2⟩
      go_wp2_with fail
      go_end0
      refine ⟨rfl, gb_trans HG.out hg2, ?_⟩
      rw [HX.out.2]; exact ⟨_, hR2⟩
set_option maxHeartbeats 800000 in
theorem skip_map (w : World) (b : Nat) (ao : Option Addr) (zs : List Int) (c off : Nat) (a : Int) (o : Nat) (f : Nat → Option Nat) (hZ : Byt zs) (hn : zs.length ≤ 1099511627776) (hnc : zs.length ≤ c) (h : Rd w b ao zs.length c off true) (hs : Src w b ao zs) (hF : headF zs off = some (5, a, false, o))
    (hI : Hid (Inner b ao zs c off f)) (hf : Hid (Goes zs f)) :
    Calls Try.prog 25 #[.pointer (some ⟨b, 0, none⟩)] w fun e w' => e = .returned (.tuple #[]) ∧ w.grownBy w' (some b) ∧ Out w' b ao zs.length c (iterF (twoF f) a.toNat o) := by
  obtain ⟨q1, q2, q3, q4, q5, q6⟩ := headF_some hZ hF
  have hbw := h.facts.2.2.2.2.2
  obtain ⟨A, rfl⟩ : ∃ A : Nat, a = A := ⟨a.toNat, by omega⟩
  obtain ⟨R, HR⟩ : ∃ R, Hid (R = iterF (twoF f) (A : Int).toNat o) := ⟨_, rfl⟩
  have HH : Hid (Calls Try.prog 28 #[.pointer (some ⟨b, 0, none⟩)] w fun e w' => e = .returned (.agg #[.int .u8 5, .int .u64 A, .bool false]) ∧ Rd w' b ao zs.length c o true ∧ w.grownBy w' (some b)) := head_some w b ao zs c off 5 A false o hZ hn hnc h hs hF
  have HS : Hid (Src w b ao zs) := hs
  rw [← HR.out]
  clear hF h hs hZ
  go_enter Try.func25, Try.ntmps25
  go_wp2_with fail
  refine HH.out.mono ?_
  rintro e w1 ⟨rfl, hR, hg⟩
  have HR1 : Hid (Rd w1 b ao zs.length c o true) := hR
  have hsz := hg.size
  clear HH hR
  go_wp2_with fail
  go_loopg [6] (A + 1) (fun gk i wr => ∃ j : Nat, j ≤ A ∧ i = .int .u64 j ∧ Hid (Hd wr w1.heap.size 5 A false) ∧ Hid (w.grownBy wr (some b)) ∧
     Hid ((∃ oo, Rd wr b ao zs.length c ((oo : Nat) : Int) true ∧ off < oo ∧ oo ≤ zs.length ∧ iterF (twoF f) (A - j) oo = R ∧ gk = A - j + 1) ∨ ((∃ x, Rd wr b ao zs.length c x false) ∧ R = none ∧ gk = 0)))
  case atStart => exact ⟨0, Nat.zero_le _, rfl, Hd.born _ _ rfl _ _ _, gb_alloc hg _, Or.inl ⟨o, HR1.out.alloc _, by omega, q2, by rw [HR.out]; rfl, rfl⟩⟩
  case round =>
    clear HR1 hg
    obtain ⟨j, hj, rfl, HHd, HG, HD⟩ := hrel
    obtain ⟨m0, m1, m2, p0, p1, p2, hm5⟩ := HHd.out.facts
    have hne : w1.heap.size ≠ b := by omega
    rcases HD.out with ⟨oo, hRd, ho1, ho2, hit, hgk⟩ | ⟨⟨x, hRd⟩, hRn, hgk⟩
    · have HX : Hid (Rd wr b ao zs.length c oo true ∧ iterF (twoF f) (A - j) oo = R ∧ gk = A - j + 1) := ⟨hRd, hit, hgk⟩
      clear hRd hit hgk HD
      by_cases hlt : j < A
      · go_wp2_with fail
        refine (more_def_t _ b ao zs.length c oo 5 A j HX.out.1 (by omega)).mono ?_
        rintro e w2 ⟨rfl, hR2, hg2⟩
        have HS2 : Src w2 b ao zs := HS.out.grown (gb_trans HG.out hg2)
        go_wp2_with fail
        refine (hI.out w2 oo hR2 HS2 ho1 ho2).mono ?_
        rintro e w2a ⟨rfl, hg2a, hOa⟩
        have HS3 : Src w2a b ao zs := HS2.grown hg2a
        have HOa : Hid (Out w2a b ao zs.length c (f oo)) := hOa
        clear hOa
        go_wp2_with fail
        refine (skip_next b ao zs c off f hI (f oo) (fun o' ho' => by have := hf.out _ _ ho'; omega) w2a HOa.out HS3).mono ?_
        rintro e w3 ⟨rfl, hg3a, hO⟩
        have hg3 := gb_trans hg2a hg3a
        rw [thenF_two] at hO
        have HO : Hid (Out w3 b ao zs.length c (twoF f oo)) := hO
        clear HOa HS3 hg2a hg3a
        have HG3 : Hid (w.grownBy w3 (some b)) := gb_trans (gb_trans HG.out hg2) hg3
        have HH3 : Hid (Hd w3 w1.heap.size 5 A false) := (HHd.out.grown hg2 (by simpa using hne)).grown hg3 (by simpa using hne)
        clear hO hR2 HS2 hg2 hg3
        go_wp2_with fail
        obtain ⟨-, hit, hgk⟩ := HX.out
        have hsub : A - j = (A - (j + 1)) + 1 := by omega
        rw [hsub, iterF] at hit
        cases hfo : twoF f oo with
        | none =>
          rw [hfo] at hit
          have hO := HO.out
          rw [hfo] at hO
          go_roundg 0
          case measure => omega
          case rel => exact ⟨j + 1, by omega, by go_num, HH3, HG3, Or.inr ⟨hO, hit.symm, rfl⟩⟩
        | some o2 =>
          rw [hfo] at hit
          have hO := HO.out
          rw [hfo] at hO
          have hgo := goes_two hf.out _ _ hfo
          go_roundg (A - (j + 1) + 1)
          case measure => omega
          case rel => exact ⟨j + 1, by omega, by go_num, HH3, HG3, Or.inl ⟨o2, hO, by omega, hgo.2, hit, rfl⟩⟩
      · go_wp2_with fail
        refine (more_def_f _ b ao zs.length c oo 5 A j HX.out.1 (by omega)).mono ?_
        rintro e w2 ⟨rfl, hR2, hg2⟩
        go_wp2_with fail
        go_end0
        refine ⟨rfl, gb_trans HG.out hg2, ?_⟩
        have hit := HX.out.2.1
        rw [show A - j = 0 by omega, iterF] at hit
        rw [← hit]; exact hR2
    · have HX : Hid (Rd wr b ao zs.length c x false ∧ R = none) := ⟨hRd, hRn⟩
      clear hRd hRn hgk HD
      go_wp2_with fail
      refine (more_failed _ b ao zs.length c x 5 A false j HX.out.1).mono ?_
      rintro e w2 ⟨rfl, hR2, hg2⟩
      go_wp2_with fail
      go_end0
      refine ⟨rfl, gb_trans HG.out hg2, ?_⟩
      rw [HX.out.2]; exact ⟨_, hR2⟩
set_option maxHeartbeats 800000 in
theorem skip_mapi (w : World) (b : Nat) (ao : Option Addr) (zs : List Int) (c off : Nat) (a : Int) (o : Nat) (f : Nat → Option Nat) (hZ : Byt zs) (hn : zs.length ≤ 1099511627776) (hnc : zs.length ≤ c) (h : Rd w b ao zs.length c off true) (hs : Src w b ao zs) (hF : headF zs off = some (5, a, true, o))
    (hI : Hid (Inner b ao zs c off f)) (hf : Hid (Goes zs f)) :
    Calls Try.prog 25 #[.pointer (some ⟨b, 0, none⟩)] w fun e w' => e = .returned (.tuple #[]) ∧ w.grownBy w' (some b) ∧ Out w' b ao zs.length c (untilF zs (twoF f) (zs.length + 1) o) := by
  obtain ⟨q1, q2, q3, q4, q5, q6⟩ := headF_some hZ hF
  have hbw := h.facts.2.2.2.2.2
  obtain ⟨A, rfl⟩ : ∃ A : Nat, a = A := ⟨a.toNat, by omega⟩
  obtain ⟨R, HR⟩ : ∃ R, Hid (R = untilF zs (twoF f) (zs.length + 1) o) := ⟨_, rfl⟩
  have HH : Hid (Calls Try.prog 28 #[.pointer (some ⟨b, 0, none⟩)] w fun e w' => e = .returned (.agg #[.int .u8 5, .int .u64 A, .bool true]) ∧ Rd w' b ao zs.length c o true ∧ w.grownBy w' (some b)) := head_some w b ao zs c off 5 A true o hZ hn hnc h hs hF
  have HS : Hid (Src w b ao zs) := hs
  rw [← HR.out]
  clear hF h hs hZ
  go_enter Try.func25, Try.ntmps25
  go_wp2_with fail
  refine HH.out.mono ?_
  rintro e w1 ⟨rfl, hR, hg⟩
  have HR1 : Hid (Rd w1 b ao zs.length c o true) := hR
  have hsz := hg.size
  clear HH hR
  go_wp2_with fail
  go_loopg [6] (zs.length + 1) (fun gk i wr => ∃ j : Int, i = .int .u64 j ∧ Hid (Hd wr w1.heap.size 5 A true) ∧ Hid (w.grownBy wr (some b)) ∧
     Hid ((∃ oo, Rd wr b ao zs.length c ((oo : Nat) : Int) true ∧ off < oo ∧ oo ≤ zs.length ∧ untilF zs (twoF f) gk oo = R ∧ zs.length < oo + gk) ∨ ((∃ x, Rd wr b ao zs.length c x false) ∧ R = none ∧ gk = 0)))
  case atStart => exact ⟨0, rfl, Hd.born _ _ rfl _ _ _, gb_alloc hg _, Or.inl ⟨o, HR1.out.alloc _, by omega, q2, by rw [HR.out], by omega⟩⟩
  case round =>
    clear HR1 hg
    obtain ⟨j, rfl, HHd, HG, HD⟩ := hrel
    obtain ⟨m0, m1, m2, p0, p1, p2, hm5⟩ := HHd.out.facts
    have hne : w1.heap.size ≠ b := by omega
    rcases HD.out with ⟨oo, hRd, ho1, ho2, hit, hgk⟩ | ⟨⟨x, hRd⟩, hRn, hgk⟩
    · obtain ⟨u, rfl⟩ : ∃ u, gk = u + 1 := ⟨gk - 1, by omega⟩
      have HX : Hid (Rd wr b ao zs.length c oo true ∧ untilF zs (twoF f) (u + 1) oo = R) := ⟨hRd, hit⟩
      clear hRd hit HD
      by_cases hst : oo < zs.length ∧ zs.getD oo 0 = 255
      · obtain ⟨g, rfl, hcell⟩ : ∃ g, ao = some ⟨g, 0, none⟩ ∧ wr.cell? ⟨g, oo, none⟩ = some (.int .u8 255) := by
          rcases HS.out.grown HG.out with h0 | ⟨g, e, _, hB⟩
          · omega
          · exact ⟨g, e, by rw [hB oo hst.1, hst.2]⟩
        have HT : Hid (oo < zs.length ∧ zs.getD oo 0 = 255) := hst
        clear hst
        go_wp2_with fail
        refine (more_stop _ b g zs.length c oo 5 A j HX.out.1 HT.out.1 hn hcell).mono ?_
        rintro e w2 ⟨rfl, hR2, hg2⟩
        go_wp2_with fail
        go_end0
        refine ⟨rfl, gb_trans HG.out hg2, ?_⟩
        have hit := HX.out.2
        rw [untilF, if_pos HT.out] at hit
        rw [← hit]; exact hR2.cast (by omega)
      · have HM : Hid (∀ k, Calls Try.prog 31 #[.pointer (some ⟨b, 0, none⟩), .agg #[.int .u8 5, .int .u64 A, .bool true], .int .u64 k] wr fun e w' => e = .returned (.bool true) ∧ Rd w' b ao zs.length c oo true ∧ wr.grownBy w' (some b)) := by
          intro k
          by_cases hlt : oo < zs.length
          · rcases HS.out.grown HG.out with h0 | ⟨g, e, _, hB⟩
            · omega
            · have hX := HX.out.1
              rw [e] at hX ⊢
              exact more_on _ b g zs.length c oo 5 A k (zs.getD oo 0) hX hlt hn (hB oo hlt) (by simpa using fun e' => hst ⟨hlt, e'⟩)
          · exact more_end _ b ao zs.length c oo 5 A k HX.out.1 (by omega)
        have HT : Hid (¬ (oo < zs.length ∧ zs.getD oo 0 = 255)) := hst
        clear hst
        go_wp2_with fail
        refine (HM.out _).mono ?_
        rintro e w2 ⟨rfl, hR2, hg2⟩
        have HS2 : Src w2 b ao zs := HS.out.grown (gb_trans HG.out hg2)
        clear HM
        go_wp2_with fail
        refine (hI.out w2 oo hR2 HS2 ho1 ho2).mono ?_
        rintro e w2a ⟨rfl, hg2a, hOa⟩
        have HS3 : Src w2a b ao zs := HS2.grown hg2a
        have HOa : Hid (Out w2a b ao zs.length c (f oo)) := hOa
        clear hOa
        go_wp2_with fail
        refine (skip_next b ao zs c off f hI (f oo) (fun o' ho' => by have := hf.out _ _ ho'; omega) w2a HOa.out HS3).mono ?_
        rintro e w3 ⟨rfl, hg3a, hO⟩
        have hg3 := gb_trans hg2a hg3a
        rw [thenF_two] at hO
        have HO : Hid (Out w3 b ao zs.length c (twoF f oo)) := hO
        clear HOa HS3 hg2a hg3a
        have HG3 : Hid (w.grownBy w3 (some b)) := gb_trans (gb_trans HG.out hg2) hg3
        have HH3 : Hid (Hd w3 w1.heap.size 5 A true) := (HHd.out.grown hg2 (by simpa using hne)).grown hg3 (by simpa using hne)
        clear hO hR2 HS2 hg2 hg3
        go_wp2_with fail
        have hit := HX.out.2
        rw [untilF, if_neg HT.out] at hit
        cases hfo : twoF f oo with
        | none =>
          rw [hfo] at hit
          have hO := HO.out
          rw [hfo] at hO
          go_roundg 0
          case measure => omega
          case rel => exact ⟨_, rfl, HH3, HG3, Or.inr ⟨hO, hit.symm, rfl⟩⟩
        | some o2 =>
          rw [hfo] at hit
          have hO := HO.out
          rw [hfo] at hO
          have hgo := goes_two hf.out _ _ hfo
          go_roundg u
          case measure => omega
          case rel => exact ⟨_, rfl, HH3, HG3, Or.inl ⟨o2, hO, by omega, hgo.2, hit, by omega⟩⟩
    · have HX : Hid (Rd wr b ao zs.length c x false ∧ R = none) := ⟨hRd, hRn⟩
      clear hRd hRn hgk HD
      go_wp2_with fail
      refine (more_failed _ b ao zs.length c x 5 A true j HX.out.1).mono ?_
      rintro e w2 ⟨rfl, hR2, hg2⟩
      go_wp2_with fail
      go_end0
      refine ⟨rfl, gb_trans HG.out hg2, ?_⟩
      rw [HX.out.2]; exact ⟨_, hR2⟩
end Go.Proofs.Qxb6000697a

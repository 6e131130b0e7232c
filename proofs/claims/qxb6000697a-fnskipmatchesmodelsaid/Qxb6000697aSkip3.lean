/- The method skip: strings of open length. -/
import Derived.Test.Qxb6000697aSkip2
namespace Go.Proofs.Qxb6000697a
open Go.RowKit
set_option linter.unusedVariables false

theorem adv_any (W : World) (b : Nat) (ao : Option Addr) (zs : List Int) (c o : Nat) (a : Int) (hW : Rd W b ao zs.length c o true) (ho : o ≤ zs.length) (hn : zs.length ≤ 1099511627776) (ha : 0 ≤ a) :
    Calls Try.prog 30 #[.pointer (some ⟨b, 0, none⟩), .int .u64 a] W fun e w' => e = .returned (.tuple #[]) ∧ W.grownBy w' (some b) ∧ Out w' b ao zs.length c (advF zs o a) := by
  unfold advF
  by_cases hk : a ≤ (zs.length : Int) - o
  · rw [if_pos hk]
    refine (advance_fits W b ao zs.length c o a hW ho hn ha hk).mono ?_
    rintro e w' ⟨he, hr, hg⟩
    exact ⟨he, hg, hr.cast (by omega)⟩
  · rw [if_neg hk]
    refine (advance_over W b ao zs.length c o a hW ho hn (by omega)).mono ?_
    rintro e w' ⟨he, hr, hg⟩
    exact ⟨he, hg, ⟨_, hr⟩⟩

set_option maxHeartbeats 800000 in
theorem skip_stri2 (w : World) (b : Nat) (ao : Option Addr) (zs : List Int) (c off : Nat) (a : Int) (o : Nat) (hZ : Byt zs) (hn : zs.length ≤ 1099511627776) (hnc : zs.length ≤ c) (h : Rd w b ao zs.length c off true) (hs : Src w b ao zs) (hF : headF zs off = some (2, a, true, o))
    :
    Calls Try.prog 25 #[.pointer (some ⟨b, 0, none⟩)] w fun e w' => e = .returned (.tuple #[]) ∧ w.grownBy w' (some b) ∧ Out w' b ao zs.length c (untilF zs (chunkF zs 2) (zs.length + 1) o) := by
  obtain ⟨q1, q2, q3, q4, q5, q6⟩ := headF_some hZ hF
  have hbw := h.facts.2.2.2.2.2
  obtain ⟨A, rfl⟩ : ∃ A : Nat, a = A := ⟨a.toNat, by omega⟩
  obtain ⟨R, HR⟩ : ∃ R, Hid (R = untilF zs (chunkF zs 2) (zs.length + 1) o) := ⟨_, rfl⟩
  have HH : Hid (Calls Try.prog 28 #[.pointer (some ⟨b, 0, none⟩)] w fun e w' => e = .returned (.agg #[.int .u8 2, .int .u64 A, .bool true]) ∧ Rd w' b ao zs.length c o true ∧ w.grownBy w' (some b)) := head_some w b ao zs c off 2 A true o hZ hn hnc h hs hF
  have HS : Hid (Src w b ao zs) := hs
  rw [← HR.out]
  have hf : Hid (Goes zs (chunkF zs 2)) := goes_chunk hZ 2
  have HZ : Hid (Byt zs) := hZ
  clear hF h hs hZ
  go_enter Try.func25, Try.ntmps25
  go_wp2_with fail
  refine HH.out.mono ?_
  rintro e w1 ⟨rfl, hR, hg⟩
  have HR1 : Hid (Rd w1 b ao zs.length c o true) := hR
  have hsz := hg.size
  clear HH hR
  go_wp2_with fail
  go_loopg [3] (zs.length + 1) (fun gk i wr => ∃ j : Int, i = .int .u64 j ∧ Hid (Hd wr w1.heap.size 2 A true) ∧ Hid (w.grownBy wr (some b)) ∧
     Hid ((∃ oo, Rd wr b ao zs.length c ((oo : Nat) : Int) true ∧ off < oo ∧ oo ≤ zs.length ∧ untilF zs (chunkF zs 2) gk oo = R ∧ zs.length < oo + gk) ∨ ((∃ x, Rd wr b ao zs.length c x false) ∧ R = none ∧ gk = 0)))
  case atStart => exact ⟨0, rfl, Hd.born _ _ rfl _ _ _, gb_alloc hg _, Or.inl ⟨o, HR1.out.alloc _, by omega, q2, by rw [HR.out], by omega⟩⟩
  case round =>
    clear HR1 hg
    obtain ⟨j, rfl, HHd, HG, HD⟩ := hrel
    obtain ⟨m0, m1, m2, p0, p1, p2, hm5⟩ := HHd.out.facts
    have hne : w1.heap.size ≠ b := by omega
    rcases HD.out with ⟨oo, hRd, ho1, ho2, hit, hgk⟩ | ⟨⟨x, hRd⟩, hRn, hgk⟩
    · obtain ⟨u, rfl⟩ : ∃ u, gk = u + 1 := ⟨gk - 1, by omega⟩
      have HX : Hid (Rd wr b ao zs.length c oo true ∧ untilF zs (chunkF zs 2) (u + 1) oo = R) := ⟨hRd, hit⟩
      clear hRd hit HD
      by_cases hst : oo < zs.length ∧ zs.getD oo 0 = 255
      · obtain ⟨g, rfl, hcell⟩ : ∃ g, ao = some ⟨g, 0, none⟩ ∧ wr.cell? ⟨g, oo, none⟩ = some (.int .u8 255) := by
          rcases HS.out.grown HG.out with h0 | ⟨g, e, _, hB⟩
          · omega
          · exact ⟨g, e, by rw [hB oo hst.1, hst.2]⟩
        have HT : Hid (oo < zs.length ∧ zs.getD oo 0 = 255) := hst
        clear hst
        go_wp2_with fail
        refine (more_stop _ b g zs.length c oo 2 A j HX.out.1 HT.out.1 hn hcell).mono ?_
        rintro e w2 ⟨rfl, hR2, hg2⟩
        go_wp2_with fail
        go_end0
        refine ⟨rfl, gb_trans HG.out hg2, ?_⟩
        have hit := HX.out.2
        rw [untilF, if_pos HT.out] at hit
        rw [← hit]; exact hR2.cast (by omega)
      · have HM : Hid (∀ k, Calls Try.prog 31 #[.pointer (some ⟨b, 0, none⟩), .agg #[.int .u8 2, .int .u64 A, .bool true], .int .u64 k] wr fun e w' => e = .returned (.bool true) ∧ Rd w' b ao zs.length c oo true ∧ wr.grownBy w' (some b)) := by
          intro k
          by_cases hlt : oo < zs.length
          · rcases HS.out.grown HG.out with h0 | ⟨g, e, _, hB⟩
            · omega
            · have hX := HX.out.1
              rw [e] at hX ⊢
              exact more_on _ b g zs.length c oo 2 A k (zs.getD oo 0) hX hlt hn (hB oo hlt) (by simpa using fun e' => hst ⟨hlt, e'⟩)
          · exact more_end _ b ao zs.length c oo 2 A k HX.out.1 (by omega)
        have HT : Hid (¬ (oo < zs.length ∧ zs.getD oo 0 = 255)) := hst
        clear hst
        go_wp2_with fail
        refine (HM.out _).mono ?_
        rintro e w2 ⟨rfl, hR2, hg2⟩
        have HS2 : Src w2 b ao zs := HS.out.grown (gb_trans HG.out hg2)
        clear HM
        have hit := HX.out.2
        rw [untilF, if_neg HT.out] at hit
        have HIT : Hid ((match chunkF zs 2 oo with | none => none | some o' => untilF zs (chunkF zs 2) u o') = R) := hit
        clear hit
        cases hhd : headF zs oo with
        | none =>
          have HC : Hid (chunkF zs 2 oo = none) := by show chunkF zs 2 oo = none; unfold chunkF; rw [hhd]
          have HD2 : Hid (Calls Try.prog 28 #[.pointer (some ⟨b, 0, none⟩)] w2 fun e w' => e = .returned (.agg #[.int .u8 0, .int .u64 0, .bool false]) ∧ (∃ x, Rd w' b ao zs.length c x false) ∧ w2.grownBy w' (some b)) := head_none w2 b ao zs c oo HZ.out hn hR2 HS2 hhd
          clear hhd HS2 hR2
          go_wp2_with fail
          refine HD2.out.mono ?_
          rintro e w3 ⟨rfl, ⟨x, hR3⟩, hg3⟩
          have HM3 : Hd w3 w1.heap.size 2 A true := (HHd.out.grown hg2 (by simpa using hne)).grown hg3 (by simpa using hne)
          obtain ⟨d0, d1, d2, d3, d4, d5, d6⟩ := HM3.facts
          obtain ⟨r0, r1, r2, r3, r4, r5⟩ := hR3.facts
          clear HD2 m0 m1 m2 p0 p1 p2
          go_wp2_with fail
          refine bodyPost_ret (v := .tuple #[]) (by simp [results, Try.results25]) rfl ⟨rfl, ?_, ?_⟩
          · exact gb_alloc (gb_row (gb_trans (gb_trans HG.out hg2) hg3) _ _) _
          · have := HIT.out; rw [HC.out] at this; rw [← this]; exact ⟨_, (hR3.set2 _).alloc _⟩
        | some qq =>
          obtain ⟨m', a', i', o'⟩ := qq
          obtain ⟨t1, t2, t3, t4, t5, t6⟩ := headF_some HZ.out hhd
          have HD2 : Hid (Calls Try.prog 28 #[.pointer (some ⟨b, 0, none⟩)] w2 fun e w' => e = .returned (.agg #[.int .u8 m', .int .u64 a', .bool i']) ∧ Rd w' b ao zs.length c o' true ∧ w2.grownBy w' (some b)) := head_some w2 b ao zs c oo m' a' i' o' HZ.out hn hnc hR2 HS2 hhd
          by_cases hgood : m' = 2 ∧ i' = false
          · obtain ⟨hme, rfl⟩ := hgood
            subst hme
            have HC : Hid (chunkF zs 2 oo = advF zs o' a') := by show chunkF zs 2 oo = _; unfold chunkF; rw [hhd]; simp
            clear hhd HS2 hR2
            go_wp2_with fail
            refine HD2.out.mono ?_
            rintro e w3 ⟨rfl, hR3, hg3⟩
            have HM3 : Hd w3 w1.heap.size 2 A true := (HHd.out.grown hg2 (by simpa using hne)).grown hg3 (by simpa using hne)
            obtain ⟨d0, d1, d2, d3, d4, d5, d6⟩ := HM3.facts
            have HR3 : Hid (Rd w3 b ao zs.length c o' true) := hR3
            have HG3 : Hid (w.grownBy w3 (some b)) := gb_trans (gb_trans HG.out hg2) hg3
            have HM4 : Hid (Hd w3 w1.heap.size 2 A true) := HM3
            clear HD2 m0 m1 m2 p0 p1 p2 hR3 HM3 hg2 hg3
            go_wp2_with fail
            refine (adv_any _ b ao zs c o' a' (HR3.out.alloc _) t2 hn t5).mono ?_
            rintro e w4 ⟨rfl, hg4, hO⟩
            have HO : Hid (Out w4 b ao zs.length c (advF zs o' a')) := hO
            have HG4 : Hid (w.grownBy w4 (some b)) := gb_trans (gb_alloc HG3.out _) hg4
            have HH4 : Hid (Hd w4 w1.heap.size 2 A true) := (HM4.out.alloc _).grown hg4 (by simpa using hne)
            clear hO hg4
            go_wp2_with fail
            have hit := HIT.out
            rw [HC.out] at hit
            cases hfo : advF zs o' a' with
            | none =>
              rw [hfo] at hit
              have hO := HO.out
              rw [hfo] at hO
              go_roundg 0
              case measure => omega
              case rel => exact ⟨_, rfl, HH4, HG4, Or.inr ⟨hO, hit.symm, rfl⟩⟩
            | some o2 =>
              rw [hfo] at hit
              have hO := HO.out
              rw [hfo] at hO
              have hgo := advF_goes t2 t5 hfo
              go_roundg u
              case measure => omega
              case rel => exact ⟨_, rfl, HH4, HG4, Or.inl ⟨o2, hO, by omega, hgo.2, hit, by omega⟩⟩
          · have HC : Hid (chunkF zs 2 oo = none) := by show chunkF zs 2 oo = none; unfold chunkF; rw [hhd]; simp only [if_neg hgood]
            have hgb : (m' != 2) = true ∨ ((m' != 2) = false ∧ i' = true) := by
              cases i' with
              | true => by_cases e : m' = 2 <;> simp [e]
              | false => left; simpa using fun e => hgood ⟨e, rfl⟩
            clear hhd HS2 hR2 hgood
            rcases hgb with hb1 | ⟨hb1, rfl⟩
            all_goals
              go_wp2_with fail
              refine HD2.out.mono ?_
              rintro e w3 ⟨rfl, hR3, hg3⟩
              have HM3 : Hd w3 w1.heap.size 2 A true := (HHd.out.grown hg2 (by simpa using hne)).grown hg3 (by simpa using hne)
              obtain ⟨d0, d1, d2, d3, d4, d5, d6⟩ := HM3.facts
              obtain ⟨r0, r1, r2, r3, r4, r5⟩ := hR3.facts
              clear HD2 m0 m1 m2 p0 p1 p2
              go_wp2_with fail
              refine bodyPost_ret (v := .tuple #[]) (by simp [results, Try.results25]) rfl ⟨rfl, ?_, ?_⟩
              · exact gb_alloc (gb_row (gb_trans (gb_trans HG.out hg2) hg3) _ _) _
              · have := HIT.out; rw [HC.out] at this; rw [← this]; exact ⟨_, (hR3.set2 _).alloc _⟩
    · have HX : Hid (Rd wr b ao zs.length c x false ∧ R = none) := ⟨hRd, hRn⟩
      clear hRd hRn hgk HD
      go_wp2_with fail
      refine (more_failed _ b ao zs.length c x 2 A true j HX.out.1).mono ?_
      rintro e w2 ⟨rfl, hR2, hg2⟩
      go_wp2_with fail
      go_end0
      refine ⟨rfl, gb_trans HG.out hg2, ?_⟩
      rw [HX.out.2]; exact ⟨_, hR2⟩

set_option maxHeartbeats 800000 in
theorem skip_stri3 (w : World) (b : Nat) (ao : Option Addr) (zs : List Int) (c off : Nat) (a : Int) (o : Nat) (hZ : Byt zs) (hn : zs.length ≤ 1099511627776) (hnc : zs.length ≤ c) (h : Rd w b ao zs.length c off true) (hs : Src w b ao zs) (hF : headF zs off = some (3, a, true, o))
    :
    Calls Try.prog 25 #[.pointer (some ⟨b, 0, none⟩)] w fun e w' => e = .returned (.tuple #[]) ∧ w.grownBy w' (some b) ∧ Out w' b ao zs.length c (untilF zs (chunkF zs 3) (zs.length + 1) o) := by
  obtain ⟨q1, q2, q3, q4, q5, q6⟩ := headF_some hZ hF
  have hbw := h.facts.2.2.2.2.2
  obtain ⟨A, rfl⟩ : ∃ A : Nat, a = A := ⟨a.toNat, by omega⟩
  obtain ⟨R, HR⟩ : ∃ R, Hid (R = untilF zs (chunkF zs 3) (zs.length + 1) o) := ⟨_, rfl⟩
  have HH : Hid (Calls Try.prog 28 #[.pointer (some ⟨b, 0, none⟩)] w fun e w' => e = .returned (.agg #[.int .u8 3, .int .u64 A, .bool true]) ∧ Rd w' b ao zs.length c o true ∧ w.grownBy w' (some b)) := head_some w b ao zs c off 3 A true o hZ hn hnc h hs hF
  have HS : Hid (Src w b ao zs) := hs
  rw [← HR.out]
  have hf : Hid (Goes zs (chunkF zs 3)) := goes_chunk hZ 3
  have HZ : Hid (Byt zs) := hZ
  clear hF h hs hZ
  go_enter Try.func25, Try.ntmps25
  go_wp2_with fail
  refine HH.out.mono ?_
  rintro e w1 ⟨rfl, hR, hg⟩
  have HR1 : Hid (Rd w1 b ao zs.length c o true) := hR
  have hsz := hg.size
  clear HH hR
  go_wp2_with fail
  go_loopg [3] (zs.length + 1) (fun gk i wr => ∃ j : Int, i = .int .u64 j ∧ Hid (Hd wr w1.heap.size 3 A true) ∧ Hid (w.grownBy wr (some b)) ∧
     Hid ((∃ oo, Rd wr b ao zs.length c ((oo : Nat) : Int) true ∧ off < oo ∧ oo ≤ zs.length ∧ untilF zs (chunkF zs 3) gk oo = R ∧ zs.length < oo + gk) ∨ ((∃ x, Rd wr b ao zs.length c x false) ∧ R = none ∧ gk = 0)))
  case atStart => exact ⟨0, rfl, Hd.born _ _ rfl _ _ _, gb_alloc hg _, Or.inl ⟨o, HR1.out.alloc _, by omega, q2, by rw [HR.out], by omega⟩⟩
  case round =>
    clear HR1 hg
    obtain ⟨j, rfl, HHd, HG, HD⟩ := hrel
    obtain ⟨m0, m1, m2, p0, p1, p2, hm5⟩ := HHd.out.facts
    have hne : w1.heap.size ≠ b := by omega
    rcases HD.out with ⟨oo, hRd, ho1, ho2, hit, hgk⟩ | ⟨⟨x, hRd⟩, hRn, hgk⟩
    · obtain ⟨u, rfl⟩ : ∃ u, gk = u + 1 := ⟨gk - 1, by omega⟩
      have HX : Hid (Rd wr b ao zs.length c oo true ∧ untilF zs (chunkF zs 3) (u + 1) oo = R) := ⟨hRd, hit⟩
      clear hRd hit HD
      by_cases hst : oo < zs.length ∧ zs.getD oo 0 = 255
      · obtain ⟨g, rfl, hcell⟩ : ∃ g, ao = some ⟨g, 0, none⟩ ∧ wr.cell? ⟨g, oo, none⟩ = some (.int .u8 255) := by
          rcases HS.out.grown HG.out with h0 | ⟨g, e, _, hB⟩
          · omega
          · exact ⟨g, e, by rw [hB oo hst.1, hst.2]⟩
        have HT : Hid (oo < zs.length ∧ zs.getD oo 0 = 255) := hst
        clear hst
        go_wp2_with fail
        refine (more_stop _ b g zs.length c oo 3 A j HX.out.1 HT.out.1 hn hcell).mono ?_
        rintro e w2 ⟨rfl, hR2, hg2⟩
        go_wp2_with fail
        go_end0
        refine ⟨rfl, gb_trans HG.out hg2, ?_⟩
        have hit := HX.out.2
        rw [untilF, if_pos HT.out] at hit
        rw [← hit]; exact hR2.cast (by omega)
      · have HM : Hid (∀ k, Calls Try.prog 31 #[.pointer (some ⟨b, 0, none⟩), .agg #[.int .u8 3, .int .u64 A, .bool true], .int .u64 k] wr fun e w' => e = .returned (.bool true) ∧ Rd w' b ao zs.length c oo true ∧ wr.grownBy w' (some b)) := by
          intro k
          by_cases hlt : oo < zs.length
          · rcases HS.out.grown HG.out with h0 | ⟨g, e, _, hB⟩
            · omega
            · have hX := HX.out.1
              rw [e] at hX ⊢
              exact more_on _ b g zs.length c oo 3 A k (zs.getD oo 0) hX hlt hn (hB oo hlt) (by simpa using fun e' => hst ⟨hlt, e'⟩)
          · exact more_end _ b ao zs.length c oo 3 A k HX.out.1 (by omega)
        have HT : Hid (¬ (oo < zs.length ∧ zs.getD oo 0 = 255)) := hst
        clear hst
        go_wp2_with fail
        refine (HM.out _).mono ?_
        rintro e w2 ⟨rfl, hR2, hg2⟩
        have HS2 : Src w2 b ao zs := HS.out.grown (gb_trans HG.out hg2)
        clear HM
        have hit := HX.out.2
        rw [untilF, if_neg HT.out] at hit
        have HIT : Hid ((match chunkF zs 3 oo with | none => none | some o' => untilF zs (chunkF zs 3) u o') = R) := hit
        clear hit
        cases hhd : headF zs oo with
        | none =>
          have HC : Hid (chunkF zs 3 oo = none) := by show chunkF zs 3 oo = none; unfold chunkF; rw [hhd]
          have HD2 : Hid (Calls Try.prog 28 #[.pointer (some ⟨b, 0, none⟩)] w2 fun e w' => e = .returned (.agg #[.int .u8 0, .int .u64 0, .bool false]) ∧ (∃ x, Rd w' b ao zs.length c x false) ∧ w2.grownBy w' (some b)) := head_none w2 b ao zs c oo HZ.out hn hR2 HS2 hhd
          clear hhd HS2 hR2
          go_wp2_with fail
          refine HD2.out.mono ?_
          rintro e w3 ⟨rfl, ⟨x, hR3⟩, hg3⟩
          have HM3 : Hd w3 w1.heap.size 3 A true := (HHd.out.grown hg2 (by simpa using hne)).grown hg3 (by simpa using hne)
          obtain ⟨d0, d1, d2, d3, d4, d5, d6⟩ := HM3.facts
          obtain ⟨r0, r1, r2, r3, r4, r5⟩ := hR3.facts
          clear HD2 m0 m1 m2 p0 p1 p2
          go_wp2_with fail
          refine bodyPost_ret (v := .tuple #[]) (by simp [results, Try.results25]) rfl ⟨rfl, ?_, ?_⟩
          · exact gb_alloc (gb_row (gb_trans (gb_trans HG.out hg2) hg3) _ _) _
          · have := HIT.out; rw [HC.out] at this; rw [← this]; exact ⟨_, (hR3.set2 _).alloc _⟩
        | some qq =>
          obtain ⟨m', a', i', o'⟩ := qq
          obtain ⟨t1, t2, t3, t4, t5, t6⟩ := headF_some HZ.out hhd
          have HD2 : Hid (Calls Try.prog 28 #[.pointer (some ⟨b, 0, none⟩)] w2 fun e w' => e = .returned (.agg #[.int .u8 m', .int .u64 a', .bool i']) ∧ Rd w' b ao zs.length c o' true ∧ w2.grownBy w' (some b)) := head_some w2 b ao zs c oo m' a' i' o' HZ.out hn hnc hR2 HS2 hhd
          by_cases hgood : m' = 3 ∧ i' = false
          · obtain ⟨hme, rfl⟩ := hgood
            subst hme
            have HC : Hid (chunkF zs 3 oo = advF zs o' a') := by show chunkF zs 3 oo = _; unfold chunkF; rw [hhd]; simp
            clear hhd HS2 hR2
            go_wp2_with fail
            refine HD2.out.mono ?_
            rintro e w3 ⟨rfl, hR3, hg3⟩
            have HM3 : Hd w3 w1.heap.size 3 A true := (HHd.out.grown hg2 (by simpa using hne)).grown hg3 (by simpa using hne)
            obtain ⟨d0, d1, d2, d3, d4, d5, d6⟩ := HM3.facts
            have HR3 : Hid (Rd w3 b ao zs.length c o' true) := hR3
            have HG3 : Hid (w.grownBy w3 (some b)) := gb_trans (gb_trans HG.out hg2) hg3
            have HM4 : Hid (Hd w3 w1.heap.size 3 A true) := HM3
            clear HD2 m0 m1 m2 p0 p1 p2 hR3 HM3 hg2 hg3
            go_wp2_with fail
            refine (adv_any _ b ao zs c o' a' (HR3.out.alloc _) t2 hn t5).mono ?_
            rintro e w4 ⟨rfl, hg4, hO⟩
            have HO : Hid (Out w4 b ao zs.length c (advF zs o' a')) := hO
            have HG4 : Hid (w.grownBy w4 (some b)) := gb_trans (gb_alloc HG3.out _) hg4
            have HH4 : Hid (Hd w4 w1.heap.size 3 A true) := (HM4.out.alloc _).grown hg4 (by simpa using hne)
            clear hO hg4
            go_wp2_with fail
            have hit := HIT.out
            rw [HC.out] at hit
            cases hfo : advF zs o' a' with
            | none =>
              rw [hfo] at hit
              have hO := HO.out
              rw [hfo] at hO
              go_roundg 0
              case measure => omega
              case rel => exact ⟨_, rfl, HH4, HG4, Or.inr ⟨hO, hit.symm, rfl⟩⟩
            | some o2 =>
              rw [hfo] at hit
              have hO := HO.out
              rw [hfo] at hO
              have hgo := advF_goes t2 t5 hfo
              go_roundg u
              case measure => omega
              case rel => exact ⟨_, rfl, HH4, HG4, Or.inl ⟨o2, hO, by omega, hgo.2, hit, by omega⟩⟩
          · have HC : Hid (chunkF zs 3 oo = none) := by show chunkF zs 3 oo = none; unfold chunkF; rw [hhd]; simp only [if_neg hgood]
            have hgb : (m' != 3) = true ∨ ((m' != 3) = false ∧ i' = true) := by
              cases i' with
              | true => by_cases e : m' = 3 <;> simp [e]
              | false => left; simpa using fun e => hgood ⟨e, rfl⟩
            clear hhd HS2 hR2 hgood
            rcases hgb with hb1 | ⟨hb1, rfl⟩
            all_goals
              go_wp2_with fail
              refine HD2.out.mono ?_
              rintro e w3 ⟨rfl, hR3, hg3⟩
              have HM3 : Hd w3 w1.heap.size 3 A true := (HHd.out.grown hg2 (by simpa using hne)).grown hg3 (by simpa using hne)
              obtain ⟨d0, d1, d2, d3, d4, d5, d6⟩ := HM3.facts
              obtain ⟨r0, r1, r2, r3, r4, r5⟩ := hR3.facts
              clear HD2 m0 m1 m2 p0 p1 p2
              go_wp2_with fail
              refine bodyPost_ret (v := .tuple #[]) (by simp [results, Try.results25]) rfl ⟨rfl, ?_, ?_⟩
              · exact gb_alloc (gb_row (gb_trans (gb_trans HG.out hg2) hg3) _ _) _
              · have := HIT.out; rw [HC.out] at this; rw [← this]; exact ⟨_, (hR3.set2 _).alloc _⟩
    · have HX : Hid (Rd wr b ao zs.length c x false ∧ R = none) := ⟨hRd, hRn⟩
      clear hRd hRn hgk HD
      go_wp2_with fail
      refine (more_failed _ b ao zs.length c x 3 A true j HX.out.1).mono ?_
      rintro e w2 ⟨rfl, hR2, hg2⟩
      go_wp2_with fail
      go_end0
      refine ⟨rfl, gb_trans HG.out hg2, ?_⟩
      rw [HX.out.2]; exact ⟨_, hR2⟩
end Go.Proofs.Qxb6000697a

/- The contract of the method open. -/
import Derived.Test.Qxb6000697aSkip4
import Derived.Test.Qxb6000697aOpenF
namespace Go.Proofs.Qxb6000697a
open Go.RowKit
set_option linter.unusedVariables false

theorem head_st (w : World) (b : Nat) (ao : Option Addr) (zs : List Int) (c off : Nat) (hZ : Byt zs) (hn : zs.length ≤ 1099511627776) (hnc : zs.length ≤ c) (h : Rd w b ao zs.length c off true) (hs : Src w b ao zs) :
    Calls Try.prog 28 #[.pointer (some ⟨b, 0, none⟩)] w fun e w' => ∃ m a i, e = .returned (.agg #[.int .u8 m, .int .u64 a, .bool i]) ∧ w.grownBy w' (some b) ∧
      ((∃ o, headF zs off = some (m, a, i, o) ∧ Rd w' b ao zs.length c ((o : Nat) : Int) true) ∨ (headF zs off = none ∧ m = 0 ∧ a = 0 ∧ i = false ∧ ∃ x, Rd w' b ao zs.length c x false)) := by
  cases hF : headF zs off with
  | none =>
    refine (head_none w b ao zs c off hZ hn h hs hF).mono ?_
    rintro e w' ⟨he, hr, hg⟩
    exact ⟨0, 0, false, he, hg, Or.inr ⟨rfl, rfl, rfl, rfl, hr⟩⟩
  | some q =>
    obtain ⟨m, a, i, o⟩ := q
    refine (head_some w b ao zs c off m a i o hZ hn hnc h hs hF).mono ?_
    rintro e w' ⟨he, hr, hg⟩
    exact ⟨m, a, i, he, hg, Or.inl ⟨o, rfl, hr⟩⟩

theorem Hd.store {w : World} {q : Nat} {m a : Int} {i : Bool} (h : Hd w q m a i) (m' a' : Int) (i' : Bool) : Hd (((w.setCell ⟨q, 0, none⟩ (.int .u8 m')).setCell ⟨q, 1, none⟩ (.int .u64 a')).setCell ⟨q, 2, none⟩ (.bool i')) q m' a' i' := by
  constructor
  have h0 := heap_setCell_same w q 0 _ _ (.int .u8 m') h.blk
  have h1 := heap_setCell_same _ q 1 _ _ (.int .u64 a') h0
  have h2 := heap_setCell_same _ q 2 _ _ (.bool i') h1
  exact h2

/-- What open leaves: T: the first head past the tags; S: what skip would do. -/
def OpenPost (w' : World) (b : Nat) (ao : Option Addr) (n c : Nat) (major : Int) (S : Option Nat) (e : Ending) : Option (Int × Int × Bool × Nat) → Prop
  | none => e = .returned (.tuple #[.agg #[.int .u8 0, .int .u64 0, .bool false], .bool false]) ∧ Out w' b ao n c none
  | some (m, a, i, o) => (m = major ∧ e = .returned (.tuple #[.agg #[.int .u8 m, .int .u64 a, .bool i], .bool true]) ∧ Rd w' b ao n c o true) ∨
      (m ≠ major ∧ e = .returned (.tuple #[.agg #[.int .u8 0, .int .u64 0, .bool false], .bool false]) ∧ Out w' b ao n c S)

theorem out_other {w : World} {b : Nat} {ao : Option Addr} {n c : Nat} {r : Option Nat} (h : Out w b ao n c r) (p : Addr) (hp : b ≠ p.block) (v : Value) : Out (w.setCell p v) b ao n c r := by
  cases r with
  | none => obtain ⟨x, hx⟩ := h; exact ⟨x, hx.other p hp v⟩
  | some o => exact Rd.other h p hp v

set_option maxHeartbeats 1000000 in
theorem open_any (w : World) (b : Nat) (ao : Option Addr) (zs : List Int) (c off : Nat) (major : Int) (hZ : Byt zs) (hn : zs.length ≤ 1099511627776) (hnc : zs.length ≤ c) (h : Rd w b ao zs.length c off true) (hs : Src w b ao zs) (hoff : off ≤ zs.length) :
    Calls Try.prog 29 #[.pointer (some ⟨b, 0, none⟩), .int .u8 major] w fun e w' => w.grownBy w' (some b) ∧ OpenPost w' b ao zs.length c major (skipF zs (zs.length + 1) off) e (tagsF zs (zs.length + 1) off) := by
  obtain ⟨T, HT⟩ : ∃ T, Hid (T = tagsF zs (zs.length + 1) off) := ⟨_, rfl⟩
  obtain ⟨S, HSS⟩ : ∃ S, Hid (S = skipF zs (zs.length + 1) off) := ⟨_, rfl⟩
  rw [← HT.out, ← HSS.out]
  have HSk : Hid (∀ W, Rd W b ao zs.length c off true → Src W b ao zs → Calls Try.prog 25 #[.pointer (some ⟨b, 0, none⟩)] W fun e w' => e = .returned (.tuple #[]) ∧ W.grownBy w' (some b) ∧ Out w' b ao zs.length c S) := by
    intro W hW hWs
    rw [HSS.out]
    exact skip_any b ao zs c hZ hn hnc (zs.length + 1) W off hW hWs hoff (by omega)
  obtain ⟨c0, c1, c2, f1, f2, hb⟩ := h.facts
  have HS : Hid (Src w b ao zs) := hs
  have HR : Hid (Rd w b ao zs.length c off true) := h
  have HZ : Hid (Byt zs) := hZ
  clear h hs hZ
  go_enter Try.func29, Try.ntmps29
  go_wp2_with fail
  refine (head_st _ b ao zs c off HZ.out hn hnc (HR.out.alloc _) (HS.out.grown (World.grownBy_alloc _ _ _))).mono ?_
  rintro e w1 ⟨m, a, i, rfl, hg1, hst⟩
  have HG1 : Hid (w.grownBy w1 (some b)) := gb_trans (World.grownBy_alloc _ _ _) hg1
  have HO1 : Hid (Hd w1 w.heap.size 0 0 false) := (Hd.born w w.heap.size rfl 0 0 false).grown hg1 (by simp; omega)
  have HST : Hid ((∃ o, headF zs off = some (m, a, i, o) ∧ Rd w1 b ao zs.length c ((o : Nat) : Int) true) ∨ (headF zs off = none ∧ m = 0 ∧ a = 0 ∧ i = false ∧ ∃ x, Rd w1 b ao zs.length c x false)) := hst
  have hsz : w.heap.size < w1.heap.size := HO1.out.facts.2.2.2.2.2.2
  clear hst hg1 c0 c1 c2 f1 f2
  go_wp2_with fail
  go_loopg [] zs.length (fun gk wr => Hid (Hd wr w.heap.size 0 0 false) ∧ Hid (w.grownBy wr (some b)) ∧
     Hid ((∃ m a i o, Hd wr w1.heap.size m a i ∧ Rd wr b ao zs.length c ((o : Nat) : Int) true ∧ off < o ∧ o ≤ zs.length ∧ zs.length < o + gk ∧ (if m = 6 then tagsF zs gk o else some (m, a, i, o)) = T) ∨ (Hd wr w1.heap.size 0 0 false ∧ (∃ x, Rd wr b ao zs.length c x false) ∧ T = none)))
  case atStart =>
    refine ⟨HO1.out.alloc _, gb_alloc HG1.out _, ?_⟩
    rcases HST.out with ⟨o, hF, hR⟩ | ⟨hF, rfl, rfl, rfl, x, hR⟩
    · have hh := headF_some HZ.out hF
      refine Or.inl ⟨m, a, i, o, Hd.born _ _ rfl _ _ _, hR.alloc _, hh.1, hh.2.1, by omega, ?_⟩
      rw [HT.out, tagsF, hF]
    · refine Or.inr ⟨Hd.born _ _ rfl _ _ _, ⟨x, hR.alloc _⟩, ?_⟩
      rw [HT.out, tagsF, hF]
  case round =>
    obtain ⟨HO, HG, HD⟩ := hrel
    obtain ⟨o0, o1, o2, e0, e1, e2, ho5⟩ := HO.out.facts
    have hne : w1.heap.size ≠ b := by omega
    have hneo : w.heap.size ≠ b := by omega
    clear HST HO1 HG1
    rcases HD.out with ⟨m, a, i, o, hH, hRd, ho1, ho2, hgk, hT⟩ | ⟨hH, ⟨x, hRd⟩, hT⟩
    · obtain ⟨m0, m1, m2, p0, p1, p2, hm5⟩ := hH.facts
      obtain ⟨r0, r1, r2, r3, r4, r5⟩ := hRd.facts
      have HH : Hid (Hd wr w1.heap.size m a i) := hH
      have HRd : Hid (Rd wr b ao zs.length c o true) := hRd
      have HTT : Hid ((if m = 6 then tagsF zs gk o else some (m, a, i, o)) = T) := hT
      clear hH hRd hT HD
      by_cases h6 : m = 6
      · subst h6
        obtain ⟨u, rfl⟩ : ∃ u, gk = u + 1 := ⟨gk - 1, by omega⟩
        have hT := HTT.out
        rw [if_pos rfl] at hT
        have HT2 : Hid (tagsF zs (u + 1) o = T) := hT
        clear hT HTT
        go_wp2_with fail
        refine (head_st _ b ao zs c o HZ.out hn hnc HRd.out (HS.out.grown HG.out)).mono ?_
        rintro e w2 ⟨m', a', i', rfl, hg2, hst⟩
        have HG2 : Hid (w.grownBy w2 (some b)) := gb_trans HG.out hg2
        have hH2 := HH.out.grown hg2 (by simpa using hne)
        obtain ⟨d0, d1, d2, d3, d4, d5, d6⟩ := hH2.facts
        have HH2 : Hid (Hd w2 w1.heap.size 6 a i) := hH2
        have HO2 : Hid (Hd w2 w.heap.size 0 0 false) := HO.out.grown hg2 (by simpa using hneo)
        have HST : Hid ((∃ o', headF zs o = some (m', a', i', o') ∧ Rd w2 b ao zs.length c ((o' : Nat) : Int) true) ∨ (headF zs o = none ∧ m' = 0 ∧ a' = 0 ∧ i' = false ∧ ∃ x, Rd w2 b ao zs.length c x false)) := hst
        clear hst hH2 hg2 m0 m1 m2 p0 p1 p2 r0 r1 r2 r3 r4 r5 o0 o1 o2 e0 e1 e2 ho5
        go_wp2_with fail
        have hT := HT2.out
        rw [tagsF] at hT
        have hHn := HH2.out.store m' a' i'
        have hOn := ((HO2.out.other ⟨w1.heap.size, 0, none⟩ (by simp; omega) (.int .u8 m')).other ⟨w1.heap.size, 1, none⟩ (by simp; omega) (.int .u64 a')).other ⟨w1.heap.size, 2, none⟩ (by simp; omega) (.bool i')
        have hGn := gb_new (gb_new (gb_new HG2.out ⟨w1.heap.size, 0, none⟩ (by simp; omega) (.int .u8 m')) ⟨w1.heap.size, 1, none⟩ (by simp; omega) (.int .u64 a')) ⟨w1.heap.size, 2, none⟩ (by simp; omega) (.bool i')
        rcases HST.out with ⟨o', hF, hR⟩ | ⟨hF, rfl, rfl, rfl, x, hR⟩
        · have hh := headF_some HZ.out hF
          rw [hF] at hT
          go_roundg u
          case measure => omega
          case rel => exact ⟨hOn, hGn, Or.inl ⟨m', a', i', o', hHn, ((hR.other _ (by simp; omega) _).other _ (by simp; omega) _).other _ (by simp; omega) _, by omega, hh.2.1, by omega, hT⟩⟩
        · rw [hF] at hT
          go_roundg 0
          case measure => omega
          case rel => exact ⟨hOn, hGn, Or.inr ⟨hHn, ⟨x, ((hR.other _ (by simp; omega) _).other _ (by simp; omega) _).other _ (by simp; omega) _⟩, hT.symm⟩⟩
      · have hT := HTT.out
        rw [if_neg h6] at hT
        have HTT2 : Hid (T = some (m, a, i, o)) := hT.symm
        clear hT HTT
        have h6b : (m == 6) = false := by simpa using h6
        clear h6
        by_cases hmj : m = major
        · have hmjb : (m == major) = true := by simpa using hmj
          have HMJ : Hid (m = major) := hmj
          clear hmj
          go_wp2_with fail
          refine bodyPost_ret (v := .tuple #[.agg #[.int .u8 m, .int .u64 a, .bool i], .bool true]) (by simp [results, Try.results29, go_sem, o0, o1, o2]) rfl ⟨?_, ?_⟩
          · exact gb_new (gb_new (gb_new HG.out _ (by simp) _) _ (by simp) _) _ (by simp) _
          · rw [HTT2.out]
            exact Or.inl ⟨HMJ.out, rfl, ((HRd.out.other _ (by simp; omega) _).other _ (by simp; omega) _).other _ (by simp; omega) _⟩
        · have hmjb : (m == major) = false := by simpa using hmj
          have HMJ : Hid (m ≠ major) := hmj
          clear hmj
          go_wp2_with fail
          refine (HSk.out _ ((HRd.out.set1 _)) (HS.out.grown (gb_row HG.out _ _))).mono ?_
          rintro e w3 ⟨rfl, hg3, hO3⟩
          have hO3r := (HO.out.other ⟨b, 1, none⟩ (by simp; omega) (.int .i64 off)).grown hg3 (by simpa using hneo)
          obtain ⟨t0, t1, t2, t3, t4, t5, t6⟩ := hO3r.facts
          have HO3 : Hid (Out w3 b ao zs.length c S) := hO3
          have HG3 : Hid (w.grownBy w3 (some b)) := gb_trans (gb_row HG.out _ _) hg3
          clear hO3 hO3r hg3
          go_wp2_with fail
          refine bodyPost_ret (v := .tuple #[.agg #[.int .u8 0, .int .u64 0, .bool false], .bool false]) (by simp [results, Try.results29, go_sem, t0, t1, t2]) rfl ⟨?_, ?_⟩
          · exact gb_new (gb_new (gb_new HG3.out _ (by simp) _) _ (by simp) _) _ (by simp) _
          · rw [HTT2.out]
            exact Or.inr ⟨HMJ.out, rfl, out_other (out_other (out_other HO3.out _ (by simp; omega) _) _ (by simp; omega) _) _ (by simp; omega) _⟩
    · obtain ⟨m0, m1, m2, p0, p1, p2, hm5⟩ := hH.facts
      obtain ⟨r0, r1, r2, r3, r4, r5⟩ := hRd.facts
      have HRd : Hid (Rd wr b ao zs.length c x false) := hRd
      have HTT : Hid (T = none) := hT
      clear hH hRd hT HD
      go_wp2_with fail
      refine (skip_failed _ b ao zs.length c _ ((HRd.out.set1 _))).mono ?_
      rintro e w3 ⟨rfl, hg3, hO3⟩
      have hO3r := (HO.out.other ⟨b, 1, none⟩ (by simp; omega) (.int .i64 off)).grown hg3 (by simpa using hneo)
      obtain ⟨t0, t1, t2, t3, t4, t5, t6⟩ := hO3r.facts
      have HO3 : Hid (Out w3 b ao zs.length c none) := hO3
      have HG3 : Hid (w.grownBy w3 (some b)) := gb_trans (gb_row HG.out _ _) hg3
      clear hO3 hO3r hg3
      go_wp2_with fail
      refine bodyPost_ret (v := .tuple #[.agg #[.int .u8 0, .int .u64 0, .bool false], .bool false]) (by simp [results, Try.results29, go_sem, t0, t1, t2]) rfl ⟨?_, ?_⟩
      · exact gb_new (gb_new (gb_new HG3.out _ (by simp) _) _ (by simp) _) _ (by simp) _
      · rw [HTT.out]
        exact ⟨rfl, out_other (out_other (out_other HO3.out _ (by simp; omega) _) _ (by simp; omega) _) _ (by simp; omega) _⟩
end Go.Proofs.Qxb6000697a

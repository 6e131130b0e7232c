/- The contract of zzRender: digits, at least one, at most twenty. -/
import Derived.Test.Qxb6001608aDig
namespace Go.Proofs.Qxb6001608a
open Go.RowKit
set_option linter.unusedVariables false

theorem Try.info5 : (Try.prog.info? 5).map (fun i => (i.zero, i.size, i.bytes)) = some (some (.int .u8 0), 1, 1) := by kernel_rfl

def Digs (L : List Int) : Prop := ∀ z ∈ L, 48 ≤ z ∧ z ≤ 57

theorem ten_step (n : Int) (i : Nat) (h0 : 0 < n) (h : n < 10 ^ i) : ∃ j, i = j + 1 ∧ n / 10 < 10 ^ j := by
  cases i with
  | zero => simp at h; omega
  | succ j => exact ⟨j, rfl, by rw [Int.pow_succ] at h; omega⟩

/-- The array of twenty bytes. -/
structure Arr (w : World) (D : Nat) (L : List Int) : Prop where
  blk : w.heap[D]? = some (.cells (L.map (Value.int .u8)).toArray 29 (0, 0))
  len : L.length = 20
theorem Arr.cell {w : World} {D : Nat} {L : List Int} (h : Arr w D L) (j : Nat) (hj : j < 20) : w.cell? ⟨D, j, none⟩ = some (.int .u8 (L.getD j 0)) := by
  have := h.len
  simp [World.cell?, h.blk, show j < L.length by omega]
theorem Arr.free {w : World} {D : Nat} {L : List Int} (h : Arr w D L) (j : Nat) : w.frozen? ⟨D, j, none⟩ = false := by simp [World.frozen?, h.blk]
theorem Arr.lt {w : World} {D : Nat} {L : List Int} (h : Arr w D L) : D < w.heap.size := lt_of_block h.blk
theorem Arr.set {w : World} {D : Nat} {L : List Int} (h : Arr w D L) (j : Nat) (z : Int) : Arr (w.setCell ⟨D, j, none⟩ (.int .u8 z)) D (L.set j z) := by
  refine ⟨?_, by simpa using h.len⟩
  rw [heap_setCell_same w D j _ _ _ h.blk]
  simp
theorem Arr.grown {w w' : World} {D : Nat} {L : List Int} (h : Arr w D L) {r : Option Nat} (hg : w.grownBy w' r) (hr : some D ≠ r) : Arr w' D L := by
  refine ⟨?_, h.len⟩
  rw [hg.block D h.lt hr]; exact h.blk

theorem set_rep (i : Nat) (L : List Int) (z : Int) : (List.replicate (i + 1) 0 ++ L).set i z = List.replicate i 0 ++ (z :: L) := by
  rw [List.replicate_succ', List.append_assoc, List.set_append]
  simp

theorem take_snoc (A : List Int) (k : Nat) (h : k < A.length) : A.take (k + 1) = A.take k ++ [A.getD k 0] := by
  rw [List.take_succ_eq_append_getElem h]; simp [List.getD, h]

set_option maxHeartbeats 800000 in
theorem render_any (n : Int) (h0 : 0 ≤ n) (h1 : n ≤ 18446744073709551615) (w : World) :
    Calls Try.prog 8 #[.int .u64 n] w fun e w' => ∃ (L : List Int) (g cap : Nat), e = .returned (.slice (some ⟨g, 0, none⟩) L.length cap) ∧ w.heap.size ≤ g ∧ 1 ≤ L.length ∧ L.length ≤ 20 ∧ Digs L ∧ w'.ownsRow w.heap.size 5 1 (.slice (some ⟨g, 0, none⟩) L.length cap) L.length (L.map (Value.int .u8)) ∧ Below w.heap.size w w' := by
  obtain ⟨i0, hi, hz0, hz1, hz2⟩ := info_parts Try.info5
  by_cases hn : n = 0
  · subst hn
    go_enter Try.func8, Try.ntmps8
    go_wp2
    go_ret
    exact ⟨[48], w.heap.size, 1, rfl, Nat.le_refl _, Nat.le_refl _, by decide, (by intro z hz; simp at hz; omega), World.ownsRow_lit w #[.int .u8 48] 1 (Nat.le_refl _) (by unfold maxLen; omega) rfl, (Below.refl _ _).alloc (Nat.le_refl _) _⟩
  · have hnb : (n == 0) = false := by simpa using hn
    have HN : Hid (n < 10 ^ 20) := by show n < 10 ^ 20; omega
    clear hn
    go_enter Try.func8, Try.ntmps8
    go_wp2
    go_loopw [0, 4] (fun x i wr => ∃ (m : Int) (k : Nat) (L : List Int), x = .int .u64 m ∧ 0 ≤ m ∧ m ≤ 18446744073709551615 ∧ i = .int .i64 k ∧ k ≤ 20 ∧ Hid (m < 10 ^ k) ∧ Hid (Digs L) ∧ L.length + k = 20 ∧ (k = 20 → 0 < m) ∧ Hid (Arr wr w.heap.size (List.replicate k 0 ++ L)) ∧ Hid (Below w.heap.size w wr))
      (fun _ i _ => (intOf i).toNat)
    case atStart =>
      refine ⟨n, 20, [], rfl, h0, h1, rfl, Nat.le_refl _, HN, (by intro z hz; cases hz), rfl, fun _ => by simp at hnb; omega, ⟨?_, by simp⟩, (Below.refl _ _).alloc (Nat.le_refl _) _⟩
      show (w.heap.push _)[w.heap.size]? = _
      simp
    case round =>
      clear HN hnb h0 h1
      obtain ⟨m, k, L, rfl, hm0, hm1, rfl, hk, HM, HL, hlen, hk20, HA, HB⟩ := hrel
      by_cases hm : 0 < m
      · obtain ⟨j, rfl, hj⟩ := ten_step m k hm HM.out
        have HJ : Hid (m / 10 < 10 ^ j) := hj
        clear hj HM hk20
        have hc : wr.cell? ⟨w.heap.size, j, none⟩ = some (.int .u8 ((List.replicate (j + 1) 0 ++ L).getD j 0)) := HA.out.cell j (by omega)
        obtain ⟨q, hq⟩ : ∃ q, wr.cell? ⟨w.heap.size, j, none⟩ = some (.int .u8 q) := ⟨_, hc⟩
        have hf := HA.out.free j
        have HA2 : Hid (Arr (wr.setCell ⟨w.heap.size, j, none⟩ (.int .u8 (48 + m % 10))) w.heap.size (List.replicate j 0 ++ ((48 + m % 10) :: L))) := by
          have := HA.out.set j (48 + m % 10)
          rw [set_rep] at this
          exact this
        have HB2 : Hid (Below w.heap.size w (wr.setCell ⟨w.heap.size, j, none⟩ (.int .u8 (48 + m % 10)))) := HB.out.setCell (p := ⟨w.heap.size, j, none⟩) (Nat.le_refl _) _
        have HL2 : Hid (Digs ((48 + m % 10) :: L)) := by
          intro z hz
          rw [List.mem_cons] at hz
          rcases hz with rfl | hz
          · omega
          · exact HL.out z hz
        clear hc HA HB HL
        go_wp2
        go_roundw
        case rel => exact ⟨m / 10, j, (48 + m % 10) :: L, rfl, by omega, by omega, by go_num, by omega, HJ, HL2, by simp; omega, fun h => by omega, HA2, HB2⟩
        case measure => simp [intOf]
      · have hk' : k < 20 := by
          rcases Nat.lt_or_ge k 20 with h | h
          · exact h
          · exact absurd (hk20 (by omega)) hm
        clear hk20 HM
        obtain ⟨X, HX⟩ : ∃ X, Hid (X = List.replicate k 0 ++ L) := ⟨List.replicate k 0 ++ L, Eq.refl _⟩
        rw [← HX.out] at HA
        go_wp2_with (at_make; refine wpList_make_own _ rfl _ _ 25 rfl w.heap.size 5 i0 (.int .u8 0) 1 Try.underlying25 hi hz0 hz1 _ _ _ (20 - k) rfl rfl ?c0 ?c1 ?c2 ?c3 ?_)
        case c0 => omega
        case c1 => first | omega | (rw [hz2]; omega)
        case c2 => unfold maxLen; omega
        case c3 => exact HB.out.size
        intro w1 hown hgrow
        obtain ⟨g, hg⟩ : ∃ g, g = wr.heap.size := ⟨_, rfl⟩
        have hgd : w.heap.size < wr.heap.size := HA.out.lt
        rw [← hg] at hown hgd ⊢
        have HO1 : Hid (w1.ownsRow w.heap.size 5 1 (.slice (some ⟨g, 0, none⟩) 0 (20 - k)) 0 []) := hown
        have HA1 : Hid (Arr w1 w.heap.size X) := HA.out.grown hgrow (by simp)
        have HB1 : Hid (Below w.heap.size w w1) := HB.out.grown hgrow HB.out.size (fun q hq => by cases hq)
        clear hown hgrow hg HA HB
        go_wp2
        go_loopw [5, 6] (fun v i wr => ∃ (j : Nat) (CS : List Value), j ≤ 20 - k ∧ i = .int .i64 ((k + j : Nat) : Int) ∧ v = .slice (some ⟨g, 0, none⟩) j (20 - k) ∧ Hid (CS = ((X.drop k).take j).map (Value.int .u8)) ∧ Hid (wr.ownsRow w.heap.size 5 1 (.slice (some ⟨g, 0, none⟩) j (20 - k)) j CS) ∧ Hid (Arr wr w.heap.size X) ∧ Hid (Below w.heap.size w wr))
          (fun _ i _ => 20 - (intOf i).toNat)
        case atStart => exact ⟨0, _, Nat.zero_le _, rfl, rfl, rfl, HO1, HA1, HB1⟩
        case round =>
          clear HO1 HA1 HB1
          obtain ⟨j, CS, hj, rfl, rfl, HCS, HO, HA, HB⟩ := hrel
          by_cases hjl : j < 20 - k
          · obtain ⟨y, HY⟩ : ∃ y, Hid (y = X.getD (k + j) 0) := ⟨_, rfl⟩
            have hcell : wr.cell? ⟨w.heap.size, k + j, none⟩ = some (.int .u8 y) := by rw [HY.out]; exact HA.out.cell (k + j) (by omega)
            go_wp2_with (at_builtin; refine wpList_append_fits _ rfl _ _ 25 rfl w.heap.size 5 i0 1 Try.underlying25 hi hz1 g j (20 - k) CS rfl (HO.out.alloc _) ⟨wr.heap.size, 0, none⟩ 1 1 [.int .u8 y] rfl rfl (cell_one_new _ _ _) ?d1 ?d2 ?_)
            case d1 => exact ints_oneCell .u8 [y]
            case d2 => omega
            intro w2 hown2 hgr2
            have hXl := HA.out.len
            have HO2 : Hid (w2.ownsRow w.heap.size 5 1 (.slice (some ⟨g, 0, none⟩) (j + 1) (20 - k)) (j + 1) (((X.drop k).take (j + 1)).map (Value.int .u8))) := by
              rw [take_snoc (X.drop k) j (by simp; omega)]
              have e : (X.drop k).getD j 0 = y := by rw [HY.out]; simp [List.getD]
              rw [e, List.map_append, ← HCS.out]
              exact hown2
            have HB2 : Hid (Below w.heap.size w w2) := (HB.out.alloc HB.out.size _).grown hgr2 (by simp; have := HB.out.size; omega) (fun q hq => by simp at hq; omega)
            have HA2 : Hid (Arr w2 w.heap.size X) := (HA.out.grown (World.grownBy_alloc _ _ none) (by simp)).grown hgr2 (by simp; omega)
            clear hown2 hgr2
            go_wp2
            go_roundw
            case rel => exact ⟨j + 1, _, by omega, by go_num, by go_num, rfl, HO2, HA2, HB2⟩
            case measure => simp [intOf]; omega
          · obtain rfl : j = 20 - k := by omega
            have hXL : X.drop k = L := by rw [HX.out]; exact List.drop_left' (by simp)
            have HO2 : Hid (wr.ownsRow w.heap.size 5 1 (.slice (some ⟨g, 0, none⟩) L.length (20 - k)) L.length (L.map (Value.int .u8))) := by
              have := HO.out
              rw [HCS.out, hXL, List.take_of_length_le (by omega), show 20 - k = L.length by omega] at this
              rw [show 20 - k = L.length by omega]
              exact this
            have HLL : Hid (20 - k = L.length) := by show 20 - k = L.length; omega
            clear hXL
            go_wp2
            go_ret
            exact ⟨L, g, 20 - k, by rw [← HLL.out]; rfl, by omega, by omega, by omega, HL.out, HO2.out, HB.out⟩
end Go.Proofs.Qxb6001608a

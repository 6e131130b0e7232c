/- The contract of zzJoin3. -/
import Derived.Test.Qxb6000697aRd
namespace Go.Proofs.Qxb6000697a
open Go.RowKit

/-- A slice of bytes as it lies in memory, wherever it begins. -/
def Vw (w : World) (ao : Option Addr) (zs : List Int) : Prop := zs.length = 0 ∨ ∃ b off, ao = some ⟨b, off, none⟩ ∧ ∀ j, j < zs.length → w.cell? ⟨b, off + j, none⟩ = some (.int .u8 (zs.getD j 0))

theorem Vw.below {w w' : World} {ao : Option Addr} {zs : List Int} (h : Vw w ao zs) (hb : Below w.heap.size w w') : Vw w' ao zs := by
  rcases h with h | ⟨b, off, e, h⟩
  · exact Or.inl h
  · exact Or.inr ⟨b, off, e, fun j hj => (hb.cell (World.block_lt_of_cell? w _ (h j hj))).trans (h j hj)⟩

theorem take_snoc (A : List Int) (k : Nat) (h : k < A.length) : A.take (k + 1) = A.take k ++ [A.getD k 0] := by
  rw [List.take_succ_eq_append_getElem h]; simp [List.getD, h]
theorem row_snoc (P X : List Int) (y : Int) : (P ++ (X ++ [y])).map (Value.int .u8) = (P ++ X).map (Value.int .u8) ++ [Value.int .u8 y] := by simp

set_option maxHeartbeats 800000 in
theorem join3_any (w : World) (a b c : Option Addr) (A B C : List Int) (ca cb cc : Nat) (hA : Vw w a A) (hB : Vw w b B) (hC : Vw w c C) (n : Nat) (hn : n = A.length + B.length + C.length) (hn1 : n ≤ 1099511627776) :
    Calls Try.prog 15 #[.slice a A.length ca, .slice b B.length cb, .slice c C.length cc] w fun e w' => e = .returned (.slice (some ⟨w.heap.size, 0, none⟩) n n) ∧ Below w.heap.size w w' ∧
      w'.ownsRow w.heap.size 5 1 (.slice (some ⟨w.heap.size, 0, none⟩) n n) n ((A ++ (B ++ C)).map (Value.int .u8)) := by
  obtain ⟨i0, hi, hz0, hz1, hz2⟩ := info_parts Try.info5
  obtain ⟨la, hla⟩ : ∃ la, la = A.length := ⟨_, rfl⟩
  obtain ⟨lb, hlb⟩ : ∃ lb, lb = B.length := ⟨_, rfl⟩
  obtain ⟨lc, hlc⟩ : ∃ lc, lc = C.length := ⟨_, rfl⟩
  rw [← hla, ← hlb, ← hlc]
  have HA : Hid (Vw w a A ∧ la = A.length) := ⟨hA, hla⟩
  have HB : Hid (Vw w b B ∧ lb = B.length) := ⟨hB, hlb⟩
  have HC : Hid (Vw w c C ∧ lc = C.length) := ⟨hC, hlc⟩
  have HN : Hid (n = la + lb + lc) := by rw [hla, hlb, hlc]; exact hn
  have hn2 : la + lb + lc ≤ n := by rw [HN.out]; exact Nat.le_refl _
  clear hA hB hC hla hlb hlc hn
  go_enter Try.func15, Try.ntmps15
  go_wp2_with (at_make; refine wpList_make_own _ rfl _ _ 22 rfl w.heap.size 5 i0 (.int .u8 0) 1 Try.underlying22 hi hz0 hz1 _ _ _ n rfl rfl ?c0 ?c1 ?c2 ?c3 ?_)
  case c0 => have := HN.out; omega
  case c1 => rw [hz2]; omega
  case c2 => unfold maxLen; omega
  case c3 => exact Nat.le_refl _
  intro w1 hown hgrow
  have hb1 : Below w.heap.size w w1 := (Below.refl _ _).grown hgrow (Nat.le_refl _) (fun k hk => by cases hk)
  clear hgrow
  have HO1 : Hid (w1.ownsRow w.heap.size 5 1 (.slice (some ⟨w.heap.size, 0, none⟩) 0 n) 0 []) := hown
  clear hown
  go_wp2
  go_loopw [7, 8] (fun v i wr => ∃ (k : Nat) (L : List Value), k ≤ la ∧ i = .int .i64 k ∧ v = .slice (some ⟨w.heap.size, 0, none⟩) (k) n ∧ Hid (L = (([] : List Int) ++ A.take k).map (Value.int .u8)) ∧ Hid (wr.ownsRow w.heap.size 5 1 (.slice (some ⟨w.heap.size, 0, none⟩) (k) n) (k) L) ∧ Below w.heap.size w wr)
    (fun _ i _ => la - (intOf i).toNat)
  case atStart => exact ⟨0, _, Nat.zero_le _, rfl, rfl, rfl, HO1, hb1⟩
  case round =>
    clear HO1 hb1
    obtain ⟨k, L, hk, rfl, rfl, HL, HO, hbr⟩ := hrel
    by_cases hlt : k < la
    · obtain ⟨y, HY⟩ : ∃ y, Hid (y = A.getD k 0) := ⟨_, rfl⟩
      obtain ⟨bb, oo, rfl, hcell⟩ : ∃ bb oo, a = some ⟨bb, oo, none⟩ ∧ wr.cell? ⟨bb, oo + k, none⟩ = some (.int .u8 y) := by
        rcases (HA.out.1.below hbr) with h0 | ⟨bb, oo, e, h⟩
        · have := HA.out.2; omega
        · exact ⟨bb, oo, e, by rw [HY.out]; exact h k (by have := HA.out.2; omega)⟩
      go_wp2_with (at_builtin; refine wpList_append_fits _ rfl _ _ 22 rfl w.heap.size 5 i0 1 Try.underlying22 hi hz1 w.heap.size (k) n L rfl (HO.out.alloc _) ⟨wr.heap.size, 0, none⟩ 1 1 [.int .u8 y] rfl rfl (cell_one_new _ _ _) ?d1 ?d2 ?_)
      case d1 => exact ints_oneCell .u8 [y]
      case d2 => omega
      intro w2 hown2 hgr2
      have HO2 : Hid (w2.ownsRow w.heap.size 5 1 (.slice (some ⟨w.heap.size, 0, none⟩) ((k + 1)) n) ((k + 1)) ((([] : List Int) ++ A.take (k + 1)).map (Value.int .u8))) := by
        rw [take_snoc A k (by have := HA.out.2; omega), ← HY.out, row_snoc, ← HL.out]; exact hown2
      have hb2 : Below w.heap.size w w2 := (hbr.alloc hbr.size _).grown hgr2 (by simp; have := hbr.size; omega) (fun q hq => by simp at hq; omega)
      clear hown2 hgr2
      go_wp2
      go_roundw
      case rel => exact ⟨k + 1, _, by omega, by go_num, by go_num, rfl, HO2, hb2⟩
      case measure => simp [intOf]; omega
    · obtain rfl : la = k := by omega

      have HO1 : Hid (wr.ownsRow w.heap.size 5 1 (.slice (some ⟨w.heap.size, 0, none⟩) (la + 0) n) (la + 0) ((A ++ B.take 0).map (Value.int .u8))) := by
        have e : (A ++ B.take 0).map (Value.int .u8) = L := by rw [HL.out, List.take_of_length_le (l := A) (by have := HA.out.2; omega)]; simp
        rw [e]; exact HO.out
      have hb1 := hbr
      clear HO hbr HL
      go_wp2
      go_loopw [7, 9] (fun v i wr => ∃ (k : Nat) (L : List Value), k ≤ lb ∧ i = .int .i64 k ∧ v = .slice (some ⟨w.heap.size, 0, none⟩) (la + k) n ∧ Hid (L = (A ++ B.take k).map (Value.int .u8)) ∧ Hid (wr.ownsRow w.heap.size 5 1 (.slice (some ⟨w.heap.size, 0, none⟩) (la + k) n) (la + k) L) ∧ Below w.heap.size w wr)
        (fun _ i _ => lb - (intOf i).toNat)
      case atStart => exact ⟨0, _, Nat.zero_le _, rfl, rfl, rfl, HO1, hb1⟩
      case round =>
        clear HO1 hb1
        obtain ⟨k, L, hk, rfl, rfl, HL, HO, hbr⟩ := hrel
        by_cases hlt : k < lb
        · obtain ⟨y, HY⟩ : ∃ y, Hid (y = B.getD k 0) := ⟨_, rfl⟩
          obtain ⟨bb, oo, rfl, hcell⟩ : ∃ bb oo, b = some ⟨bb, oo, none⟩ ∧ wr.cell? ⟨bb, oo + k, none⟩ = some (.int .u8 y) := by
            rcases (HB.out.1.below hbr) with h0 | ⟨bb, oo, e, h⟩
            · have := HB.out.2; omega
            · exact ⟨bb, oo, e, by rw [HY.out]; exact h k (by have := HB.out.2; omega)⟩
          go_wp2_with (at_builtin; refine wpList_append_fits _ rfl _ _ 22 rfl w.heap.size 5 i0 1 Try.underlying22 hi hz1 w.heap.size (la + k) n L rfl (HO.out.alloc _) ⟨wr.heap.size, 0, none⟩ 1 1 [.int .u8 y] rfl rfl (cell_one_new _ _ _) ?d1 ?d2 ?_)
          case d1 => exact ints_oneCell .u8 [y]
          case d2 => omega
          intro w2 hown2 hgr2
          have HO2 : Hid (w2.ownsRow w.heap.size 5 1 (.slice (some ⟨w.heap.size, 0, none⟩) (la + (k + 1)) n) (la + (k + 1)) ((A ++ B.take (k + 1)).map (Value.int .u8))) := by
            rw [take_snoc B k (by have := HB.out.2; omega), ← HY.out, row_snoc, ← HL.out]; exact hown2
          have hb2 : Below w.heap.size w w2 := (hbr.alloc hbr.size _).grown hgr2 (by simp; have := hbr.size; omega) (fun q hq => by simp at hq; omega)
          clear hown2 hgr2
          go_wp2
          go_roundw
          case rel => exact ⟨k + 1, _, by omega, by go_num, by go_num, rfl, HO2, hb2⟩
          case measure => simp [intOf]; omega
        · obtain rfl : lb = k := by omega

          have HO1 : Hid (wr.ownsRow w.heap.size 5 1 (.slice (some ⟨w.heap.size, 0, none⟩) (la + lb + 0) n) (la + lb + 0) (((A ++ B) ++ C.take 0).map (Value.int .u8))) := by
            have e : ((A ++ B) ++ C.take 0).map (Value.int .u8) = L := by rw [HL.out, List.take_of_length_le (l := B) (by have := HB.out.2; omega)]; simp
            rw [e]; exact HO.out
          have hb1 := hbr
          clear HO hbr HL
          go_wp2
          go_loopw [7, 10] (fun v i wr => ∃ (k : Nat) (L : List Value), k ≤ lc ∧ i = .int .i64 k ∧ v = .slice (some ⟨w.heap.size, 0, none⟩) (la + lb + k) n ∧ Hid (L = ((A ++ B) ++ C.take k).map (Value.int .u8)) ∧ Hid (wr.ownsRow w.heap.size 5 1 (.slice (some ⟨w.heap.size, 0, none⟩) (la + lb + k) n) (la + lb + k) L) ∧ Below w.heap.size w wr)
            (fun _ i _ => lc - (intOf i).toNat)
          case atStart => exact ⟨0, _, Nat.zero_le _, rfl, rfl, rfl, HO1, hb1⟩
          case round =>
            clear HO1 hb1
            obtain ⟨k, L, hk, rfl, rfl, HL, HO, hbr⟩ := hrel
            by_cases hlt : k < lc
            · obtain ⟨y, HY⟩ : ∃ y, Hid (y = C.getD k 0) := ⟨_, rfl⟩
              obtain ⟨bb, oo, rfl, hcell⟩ : ∃ bb oo, c = some ⟨bb, oo, none⟩ ∧ wr.cell? ⟨bb, oo + k, none⟩ = some (.int .u8 y) := by
                rcases (HC.out.1.below hbr) with h0 | ⟨bb, oo, e, h⟩
                · have := HC.out.2; omega
                · exact ⟨bb, oo, e, by rw [HY.out]; exact h k (by have := HC.out.2; omega)⟩
              go_wp2_with (at_builtin; refine wpList_append_fits _ rfl _ _ 22 rfl w.heap.size 5 i0 1 Try.underlying22 hi hz1 w.heap.size (la + lb + k) n L rfl (HO.out.alloc _) ⟨wr.heap.size, 0, none⟩ 1 1 [.int .u8 y] rfl rfl (cell_one_new _ _ _) ?d1 ?d2 ?_)
              case d1 => exact ints_oneCell .u8 [y]
              case d2 => omega
              intro w2 hown2 hgr2
              have HO2 : Hid (w2.ownsRow w.heap.size 5 1 (.slice (some ⟨w.heap.size, 0, none⟩) (la + lb + (k + 1)) n) (la + lb + (k + 1)) (((A ++ B) ++ C.take (k + 1)).map (Value.int .u8))) := by
                rw [take_snoc C k (by have := HC.out.2; omega), ← HY.out, row_snoc, ← HL.out]; exact hown2
              have hb2 : Below w.heap.size w w2 := (hbr.alloc hbr.size _).grown hgr2 (by simp; have := hbr.size; omega) (fun q hq => by simp at hq; omega)
              clear hown2 hgr2
              go_wp2
              go_roundw
              case rel => exact ⟨k + 1, _, by omega, by go_num, by go_num, rfl, HO2, hb2⟩
              case measure => simp [intOf]; omega
            · obtain rfl : lc = k := by omega

              go_wp2
              go_ret
              have e : la + lb + lc = n := HN.out.symm
              have eL : (A ++ (B ++ C)).map (Value.int .u8) = L := by rw [HL.out, List.take_of_length_le (l := C) (by have := HC.out.2; omega)]; simp
              have HO' := HO.out
              rw [e] at HO'
              exact ⟨by rw [e]; rfl, hbr, by rw [eL]; exact HO'⟩
end Go.Proofs.Qxb6000697a

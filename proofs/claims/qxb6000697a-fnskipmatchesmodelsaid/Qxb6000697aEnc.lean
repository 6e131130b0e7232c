/- The contracts of zzMask and zzEncodeHead. -/
import Derived.Test.Qxb6000697aProg
import Derived.Test.Qxb6000697aPlain
import Derived.WalkKit
import Derived.WalkLawsBesides
import Derived.Laws.BitsAllLaws
namespace Go.Proofs.Qxb6000697a
open Go.RowKit

theorem ret_int {k : IntKind} {a b : Int} (h : a = b) : Ending.returned (.int k a) = .returned (.int k b) := by rw [h]

theorem and64_ff (a : Int) (h0 : 0 ≤ a) (h1 : a ≤ 18446744073709551615) : bits .and .u64 a 255 = a % 256 := by
  rw [u64_and a 255 h0 (by omega) (by omega) (by omega)]
  have := nat_mask8 a.toNat
  rw [show (255 : Int).toNat = 255 from rfl, this]; omega
theorem and64_ffff (a : Int) (h0 : 0 ≤ a) (h1 : a ≤ 18446744073709551615) : bits .and .u64 a 65535 = a % 65536 := by
  rw [u64_and a 65535 h0 (by omega) (by omega) (by omega)]
  have := nat_mask16 a.toNat
  rw [show (65535 : Int).toNat = 65535 from rfl, this]; omega
theorem and64_f8 (a : Int) (h0 : 0 ≤ a) (h1 : a ≤ 18446744073709551615) : bits .and .u64 a 4294967295 = a % 4294967296 := by
  rw [u64_and a 4294967295 h0 (by omega) (by omega) (by omega)]
  have := nat_mask32 a.toNat
  rw [show (4294967295 : Int).toNat = 4294967295 from rfl, this]; omega

set_option maxHeartbeats 400000 in
theorem mask_any (a w : Int) (h0 : 0 ≤ a) (h1 : a ≤ 18446744073709551615) (hw0 : 0 ≤ w) (hw1 : w ≤ 4) (W : World) :
    Calls Try.prog 18 #[.int .u64 a, .int .u8 w] W fun e w' => e = .returned (.int .u64 (maskF a w)) ∧ w' = W := by
  have hw : w = 0 ∨ w = 1 ∨ w = 2 ∨ w = 3 ∨ w = 4 := by omega
  rcases hw with rfl | rfl | rfl | rfl | rfl
  all_goals
    go_enter Try.func18, Try.ntmps18
    go_wp2
    go_ret
    refine ⟨ret_int ?_, rfl⟩
    simp [maskF]
  · exact and64_ff a h0 h1
  · exact and64_ffff a h0 h1
  · exact and64_f8 a h0 h1

theorem Try.info5 : (Try.prog.info? 5).map (fun i => (i.zero, i.size, i.bytes)) = some (some (.int .u8 0), 1, 1) := by kernel_rfl

theorem or8_join (m a : Int) (hm0 : 0 ≤ m) (hm1 : m ≤ 7) (h0 : 0 ≤ a) (h1 : a < 32) : bits .or .u8 (m * 32) a = m * 32 + a := by
  rw [u8_or (m * 32) a (by omega) (by omega) h0 (by omega), nat_join 5 _ _ (by omega) (by omega)]
  omega

set_option maxHeartbeats 400000 in
theorem enc_zero (m a : Int) (h0 : 0 ≤ a) (h1 : a < 24) (hm0 : 0 ≤ m) (hm1 : m ≤ 7) (W : World) :
    Calls Try.prog 19 #[.int .u8 m, .int .u64 a, .int .u8 0] W fun e w' => e = .returned (.slice (some ⟨W.heap.size, 0, none⟩) 1 1) ∧ Below W.heap.size W w' ∧
      w'.ownsRow W.heap.size 5 1 (.slice (some ⟨W.heap.size, 0, none⟩) 1 1) 1 [.int .u8 (m * 32 + a)] := by
  go_enter Try.func19, Try.ntmps19
  go_wp2
  go_ret
  refine ⟨rfl, (Below.refl _ _).alloc (Nat.le_refl _) _, ?_⟩
  rw [or8_join m a hm0 hm1 h0 (by omega)]
  exact World.ownsRow_lit W #[.int .u8 (m * 32 + a)] 1 (Nat.le_refl _) (by unfold maxLen; omega) rfl
set_option maxHeartbeats 400000 in
theorem enc_some (m a w : Int) (n : Nat) (hw : (w = 1 ∧ n = 1) ∨ (w = 2 ∧ n = 2) ∨ (w = 3 ∧ n = 4) ∨ (w = 4 ∧ n = 8)) (h0 : 0 ≤ a) (h1 : a ≤ 18446744073709551615) (hm0 : 0 ≤ m) (hm1 : m ≤ 7) (W : World) :
    Calls Try.prog 19 #[.int .u8 m, .int .u64 a, .int .u8 w] W fun e w' => e = .returned (.slice (some ⟨W.heap.size, 0, none⟩) (1 + n) (1 + n)) ∧ Below W.heap.size W w' ∧
      w'.ownsRow W.heap.size 5 1 (.slice (some ⟨W.heap.size, 0, none⟩) (1 + n) (1 + n)) (1 + n) (((m * 32 + (23 + w)) :: beB n a).map (Value.int .u8)) := by
  obtain ⟨i0, hi, hz0, hz1, hz2⟩ := info_parts Try.info5
  go_enter Try.func19, Try.ntmps19
  go_wp2
  go_loop [7, 8] (fun t k => ∃ x y : Int, t = .int .i64 x ∧ k = .int .u8 y ∧ y ≤ w ∧ ((y = 1 ∧ x = 1) ∨ (y = 2 ∧ x = 2) ∨ (y = 3 ∧ x = 4) ∨ (y = 4 ∧ x = 8))) (fun _ k => (w - intOf k).toNat)
  case atStart => exact ⟨1, 1, rfl, rfl, by omega, by omega⟩
  case round =>
    obtain ⟨x, y, rfl, rfl, hy, hxy⟩ := hrel
    by_cases hlt : y < w
    · go_wp2
      go_round
      case rel => exact ⟨x * 2, y + 1, rfl, rfl, by omega, by omega⟩
      case measure => simp [intOf]; omega
    · obtain rfl : x = n := by omega
      go_wp2_with (at_make; refine wpList_make_full _ rfl _ _ 22 rfl W.heap.size 5 i0 (.int .u8 0) 1 Try.underlying22 hi hz0 hz1 _ _ _ _ (1 + n) rfl rfl ?c0 ?c00 ?c1 ?c2 ?c3 ?_)
      case c1 => omega
      case c2 => unfold maxLen; omega
      intro w1 hown hgrow
      have hown0 : w1.ownsRow W.heap.size 5 1 (.slice (some ⟨W.heap.size, 0, none⟩) (1 + n) (1 + n)) (1 + n) ((0 :: List.replicate n 0).map (Value.int .u8)) := by
        have e : (madeCells #[Value.int IntKind.u8 0] (1 + n)).toList = ((0 :: List.replicate n (0 : Int)).map (Value.int .u8)) := by
          rw [toList_madeCells_one, Nat.add_comm 1 n]; simp [List.replicate_succ]
        rw [← e]; exact hown
      have hc0 : w1.cell? ⟨W.heap.size, 0, none⟩ = some (.int .u8 0) := (hown0.cellAt 0 (by omega)).trans rfl
      have hf0 := hown.frozenAt 0
      have hor := or8_join m (23 + w) hm0 hm1 (by omega) (by omega)
      have hb1 : Below W.heap.size W w1 := (Below.refl _ _).grown hgrow (Nat.le_refl _) (fun k hk => by cases hk)
      have hs1 := hown0.stored 0 (.int .u8 (m * 32 + (23 + w)))
      have hb2 := hb1.setCell (p := ⟨W.heap.size, 0, none⟩) (Nat.le_refl _) (.int .u8 (m * 32 + (23 + w)))
      have HS : Hid ((w1.setCell ⟨W.heap.size, 0, none⟩ (.int .u8 (m * 32 + (23 + w)))).ownsRow W.heap.size 5 1 (.slice (some ⟨W.heap.size, 0, none⟩) (1 + n) (1 + n)) (1 + n) (((m * 32 + (23 + w)) :: (List.replicate n 0 ++ [])).map (Value.int .u8))) := by
        have := hs1.1
        simpa [Hid] using this
      clear hown hown0 hgrow hs1 hb1
      go_wp2
      go_loopw [10, 11] (fun A K wr => ∃ (k : Nat) (x : Int) (T : List Int), k ≤ n ∧ K = .int .i64 k ∧ A = .int .u64 x ∧ 0 ≤ x ∧ x ≤ 18446744073709551615 ∧ T.length + k = n ∧ Hid (beB n a = beB k x ++ T) ∧
          Hid (wr.ownsRow W.heap.size 5 1 (.slice (some ⟨W.heap.size, 0, none⟩) (1 + n) (1 + n)) (1 + n) (((m * 32 + (23 + w)) :: (List.replicate k 0 ++ T)).map (Value.int .u8))) ∧ Below W.heap.size W wr)
        (fun _ K _ => (intOf K).toNat)
      case atStart => exact ⟨n, a, [], Nat.le_refl _, rfl, rfl, h0, h1, by simp, (by simp [Hid]), HS, hb2⟩
      case round =>
        clear HS hb2 hc0 hf0
        obtain ⟨k, x, T, hk, rfl, rfl, hx0, hx1, hT, HB, HO, hbr⟩ := hrel
        by_cases hk0 : k = 0
        · subst hk0
          go_wp2
          go_ret
          refine ⟨rfl, hbr, ?_⟩
          have := HO.out
          rw [HB.out]
          simpa [beB] using this
        · obtain ⟨j, rfl⟩ : ∃ j, k = j + 1 := ⟨k - 1, by omega⟩
          have hck : wr.cell? ⟨W.heap.size, j + 1, none⟩ = some (.int .u8 0) := (HO.out.cellAt (j + 1) (by omega)).trans (by simp [List.getElem?_append])
          have hfk := HO.out.frozenAt (j + 1)
          have hst := HO.out.stored (j + 1) (.int .u8 (x % 256))
          have hbs := hbr.setCell (p := ⟨W.heap.size, j + 1, none⟩) (Nat.le_refl _) (.int .u8 (x % 256))
          have HO2 : Hid ((wr.setCell ⟨W.heap.size, j + 1, none⟩ (.int .u8 (x % 256))).ownsRow W.heap.size 5 1 (.slice (some ⟨W.heap.size, 0, none⟩) (1 + n) (1 + n)) (1 + n) (((m * 32 + (23 + w)) :: (List.replicate j 0 ++ (x % 256 :: T))).map (Value.int .u8))) := by
            have h2 := hst.1
            have e : ((m * 32 + (23 + w)) :: (List.replicate (j + 1) 0 ++ T)).map (Value.int .u8) = (Value.int .u8 (m * 32 + (23 + w))) :: (List.replicate j (Value.int .u8 0) ++ (Value.int .u8 0 :: T.map (Value.int .u8))) := by
              simp [List.replicate_succ']
            rw [e] at h2
            simpa [Hid] using h2
          have HB2 : Hid (beB n a = beB j (x / 256) ++ (x % 256 :: T)) := by
            have := HB.out
            simpa [Hid, beB] using this
          clear HO HB hst hbr
          go_wp2
          go_roundw
          case rel => exact ⟨j, x / 256, x % 256 :: T, by omega, by go_num, by go_num, by omega, by omega, by simp; omega, HB2, HO2, hbs⟩
          case measure => simp [intOf]
end Go.Proofs.Qxb6000697a

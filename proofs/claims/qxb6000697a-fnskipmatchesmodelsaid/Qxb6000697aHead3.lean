/- The method head: an argument of 1, 2, 4 or 8 bytes. -/
import Derived.Test.Qxb6000697aHead2
namespace Go.Proofs.Qxb6000697a
open Go.RowKit

set_option maxHeartbeats 1600000 in
theorem head_long (w : World) (b g : Nat) (zs : List Int) (hZ : Byt zs) (hB : Bts w g zs) (n c : Nat) (hl : zs.length = n) (hnc : n ≤ c) (off : Nat) (z : Int) (s : Nat) (hjs : (z % 32 = 24 ∧ s ≤ 1 ∧ 1 ≤ s) ∨ (z % 32 = 25 ∧ s ≤ 2 ∧ 2 ≤ s) ∨ (z % 32 = 26 ∧ s ≤ 4 ∧ 4 ≤ s) ∨ (z % 32 = 27 ∧ s ≤ 8 ∧ 8 ≤ s)) (h : Rd w b (some ⟨g, 0, none⟩) n c off true) (hoff : off < n) (hn : n ≤ 1099511627776) (hgb : g ≠ b)
    (hz : w.cell? ⟨g, off, none⟩ = some (.int .u8 z)) (hz0 : 0 ≤ z) (hz1 : z ≤ 255) (hm : off + 1 + s ≤ n) :
    Calls Try.prog 28 #[.pointer (some ⟨b, 0, none⟩)] w fun e w' => e = .returned (.agg #[.int .u8 (z / 32), .int .u64 (beAt zs (off + 1) s), .bool false]) ∧ Rd w' b (some ⟨g, 0, none⟩) n c ((off : Int) + 1 + s) true ∧ w.grownBy w' (some b) := by
  obtain ⟨c0, c1, c2, f1, f2, hb⟩ := h.facts
  have hgl : g < w.heap.size := World.block_lt_of_cell? w _ hz
  have hand := and8_1f z hz0 hz1
  rcases hjs with ⟨hs, hs1, hs2⟩ | ⟨hs, hs1, hs2⟩ | ⟨hs, hs1, hs2⟩ | ⟨hs, hs1, hs2⟩
  all_goals
    have hci : ¬ c = off + 1 := by omega
    go_enter Try.func28, Try.ntmps28
    go_wp2
    go_quiet (fail)
    go_wp2
    go_quiet (fail)
    go_wp2
    go_quiet (fail)
    go_wp2
    go_quiet (fail)
    go_wp2
    go_loopw [100] (fun i wr => ∃ (k : Nat) (x : Int), k ≤ s ∧ i = .int .i64 k ∧ Hid (x = beAt zs (off + 1) k) ∧ Hid (Rd wr b (some ⟨g, 0, none⟩) n c ((off : Int) + 1) true) ∧ Hid (Hd wr (w.heap.size + 1) (z / 32) x false) ∧ Hid (Hd wr w.heap.size 0 0 false) ∧ w.grownBy wr (some b))
      (fun i _ => s - (intOf i).toNat)
    case atStart =>
      refine ⟨0, 0, by omega, rfl, rfl, ((((((h.alloc _).drewN _).set1 _).alloc _).drewN _).drewN _), ?_, ?_, ?_⟩
      · exact ((Hd.born _ _ (by simp) _ _ _).drewN _).drewN _
      · exact (((((Hd.born _ _ rfl _ _ _).drewN _).other _ (by simp; omega) _).alloc _).drewN _).drewN _
      · exact gb_drewN (gb_drewN (gb_alloc (gb_row (gb_drewN (gb_alloc (World.grownBy.refl _ _) _) _) _ _) _) _) _
    case round =>
      obtain ⟨k, x, hk, rfl, HX, HR, HH, HO, hgr⟩ := hrel
      obtain ⟨r0, r1, r2, q1, q2, hbr⟩ := HR.out.facts
      obtain ⟨m0, m1, m2, p0, p1, p2, hm5⟩ := HH.out.facts
      obtain ⟨o0, o1, o2, e0, e1, e2, ho5⟩ := HO.out.facts
      clear c0 c1 c2 f1 f2
      by_cases hlt : k < s
      · obtain ⟨y, HY⟩ : ∃ y, Hid (y = zs.getD (off + 1 + k) 0) := ⟨_, rfl⟩
        have hyc : wr.cell? ⟨g, off + 1 + k, none⟩ = some (.int .u8 y) := by rw [HY.out]; exact (hB.grown hgr (by simpa using hgb)) (off + 1 + k) (by omega)
        have hy0 : 0 ≤ y ∧ y ≤ 255 := by rw [HY.out]; exact hZ _
        have hx0 : 0 ≤ x ∧ x ≤ 72057594037927935 := by rw [HX.out]; exact beAt_56 zs hZ _ _ (by omega)
        obtain ⟨hy0, hy1⟩ := hy0
        obtain ⟨hx0, hx1⟩ := hx0
        have hor := or64_join x y hx0 hx1 hy0 hy1
        go_wp2
        go_roundw
        case rel =>
          refine ⟨k + 1, x * 256 + y, by omega, by go_num, ?_, HR.out.other _ (by simp; omega) _, HH.out.set1 _, HO.out.other _ (by simp) _, gb_new hgr _ (by simp) _⟩
          show _ = beAt zs (off + 1) k * 256 + zs.getD (off + 1 + k) 0
          rw [← HX.out, ← HY.out]
        case measure => simp [intOf]; omega
      · obtain rfl : k = s := by omega
        go_wp2
        refine bodyPost_ret (v := .agg #[.int .u8 (z / 32), .int .u64 x, .bool false]) (by simp [results, Try.results28, go_sem, o0, o1, o2]) rfl ⟨?_, ?_, ?_⟩
        · rw [HX.out]
        · exact Rd.cast ((((HR.out.set1 _).other _ (by simp; omega) _).other _ (by simp; omega) _).other _ (by simp; omega) _) (by omega)
        · exact (gb_new (gb_new (gb_new (gb_row hgr _ _) _ (by simp) _) _ (by simp) _) _ (by simp) _)
end Go.Proofs.Qxb6000697a

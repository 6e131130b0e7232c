/- The method head: the ways that read no argument bytes. -/
import Derived.Test.Qxb6000697aRd
namespace Go.Proofs.Qxb6000697a
open Go.RowKit
theorem and8_1f (z : Int) (h0 : 0 ≤ z) (h1 : z ≤ 255) : bits .and .u8 z 31 = z % 32 := by
  rw [u8_and z 31 h0 (by omega) (by omega) (by omega)]
  have := nat_mask5 z.toNat
  rw [show (31 : Int).toNat = 31 from rfl, this]; omega

set_option maxHeartbeats 400000 in
theorem head_failed (w : World) (b : Nat) (ao : Option Addr) (n c : Nat) (off : Int) (h : Rd w b ao n c off false) :
    Calls Try.prog 28 #[.pointer (some ⟨b, 0, none⟩)] w fun e w' => e = .returned (.agg #[.int .u8 0, .int .u64 0, .bool false]) ∧ Rd w' b ao n c off false ∧ w.grownBy w' (some b) := by
  obtain ⟨c0, c1, c2, f1, f2, hb⟩ := h.facts
  go_enter Try.func28, Try.ntmps28
  go_wp2
  go_quiet (fail)
  go_wp2
  refine bodyPost_ret (v := .agg #[.int .u8 0, .int .u64 0, .bool false]) (by simp [results, Try.results28, go_sem]) rfl ⟨rfl, ?_, ?_⟩
  · exact ((((((h.alloc _).drewN _).set2 false).other _ (by simp; omega) _).other _ (by simp; omega) _).other _ (by simp; omega) _)
  · exact (gb_new (gb_new (gb_new (gb_row (gb_drewN (gb_alloc (World.grownBy.refl _ _) _) _) _ _) _ (by simp) _) _ (by simp) _) _ (by simp) _)

set_option maxHeartbeats 400000 in
theorem head_end (w : World) (b : Nat) (ao : Option Addr) (n c : Nat) (off : Int) (h : Rd w b ao n c off true) (hoff : (n : Int) ≤ off) :
    Calls Try.prog 28 #[.pointer (some ⟨b, 0, none⟩)] w fun e w' => e = .returned (.agg #[.int .u8 0, .int .u64 0, .bool false]) ∧ Rd w' b ao n c off false ∧ w.grownBy w' (some b) := by
  obtain ⟨c0, c1, c2, f1, f2, hb⟩ := h.facts
  go_enter Try.func28, Try.ntmps28
  go_wp2
  go_quiet (fail)
  go_wp2
  refine bodyPost_ret (v := .agg #[.int .u8 0, .int .u64 0, .bool false]) (by simp [results, Try.results28, go_sem]) rfl ⟨rfl, ?_, ?_⟩
  · exact ((((((h.alloc _).drewN _).set2 false).other _ (by simp; omega) _).other _ (by simp; omega) _).other _ (by simp; omega) _)
  · exact (gb_new (gb_new (gb_new (gb_row (gb_drewN (gb_alloc (World.grownBy.refl _ _) _) _) _ _) _ (by simp) _) _ (by simp) _) _ (by simp) _)

set_option maxHeartbeats 400000 in
theorem head_small (w : World) (b g : Nat) (n c : Nat) (off : Nat) (z : Int) (h : Rd w b (some ⟨g, 0, none⟩) n c off true) (hoff : off < n) (hn : n ≤ 1099511627776)
    (hz : w.cell? ⟨g, off, none⟩ = some (.int .u8 z)) (hz0 : 0 ≤ z) (hz1 : z ≤ 255) (hs : z % 32 < 24) :
    Calls Try.prog 28 #[.pointer (some ⟨b, 0, none⟩)] w fun e w' => e = .returned (.agg #[.int .u8 (z / 32), .int .u64 (z % 32), .bool false]) ∧ Rd w' b (some ⟨g, 0, none⟩) n c ((off : Int) + 1) true ∧ w.grownBy w' (some b) := by
  obtain ⟨c0, c1, c2, f1, f2, hb⟩ := h.facts
  have hgl : g < w.heap.size := World.block_lt_of_cell? w _ hz
  have hand := and8_1f z hz0 hz1
  go_enter Try.func28, Try.ntmps28
  go_wp2
  go_quiet (fail)
  go_wp2
  go_quiet (fail)
  go_wp2
  refine bodyPost_ret (v := .agg #[.int .u8 (z / 32), .int .u64 (z % 32), .bool false]) (by simp [results, Try.results28, go_sem]) rfl ⟨rfl, ?_, ?_⟩
  · exact ((((((((h.alloc _).drewN _).set1 _).other _ (by simp; omega) _).other _ (by simp; omega) _).other _ (by simp; omega) _)).alloc _)
  · exact gb_alloc (gb_new (gb_new (gb_new (gb_row (gb_drewN (gb_alloc (World.grownBy.refl _ _) _) _) _ _) _ (by simp) _) _ (by simp) _) _ (by simp) _) _

set_option maxHeartbeats 400000 in
theorem head_indef (w : World) (b g : Nat) (n c : Nat) (off : Nat) (z : Int) (h : Rd w b (some ⟨g, 0, none⟩) n c off true) (hoff : off < n) (hn : n ≤ 1099511627776)
    (hz : w.cell? ⟨g, off, none⟩ = some (.int .u8 z)) (hz0 : 0 ≤ z) (hz1 : z ≤ 255) (hs : z % 32 = 31) (hm : 2 ≤ z / 32) (hm' : z / 32 ≤ 5) :
    Calls Try.prog 28 #[.pointer (some ⟨b, 0, none⟩)] w fun e w' => e = .returned (.agg #[.int .u8 (z / 32), .int .u64 0, .bool true]) ∧ Rd w' b (some ⟨g, 0, none⟩) n c ((off : Int) + 1) true ∧ w.grownBy w' (some b) := by
  obtain ⟨c0, c1, c2, f1, f2, hb⟩ := h.facts
  have hgl : g < w.heap.size := World.block_lt_of_cell? w _ hz
  have hand := and8_1f z hz0 hz1
  go_enter Try.func28, Try.ntmps28
  go_wp2
  go_quiet (fail)
  go_wp2
  go_quiet (fail)
  go_wp2
  refine bodyPost_ret (v := .agg #[.int .u8 (z / 32), .int .u64 0, .bool true]) (by simp [results, Try.results28, go_sem]) rfl ⟨rfl, ?_, ?_⟩
  · exact ((((((((h.alloc _).drewN _).set1 _).other _ (by simp; omega) _).other _ (by simp; omega) _).other _ (by simp; omega) _)).alloc _)
  · exact gb_alloc (gb_new (gb_new (gb_new (gb_row (gb_drewN (gb_alloc (World.grownBy.refl _ _) _) _) _ _) _ (by simp) _) _ (by simp) _) _ (by simp) _) _

set_option maxHeartbeats 400000 in
theorem head_bad (w : World) (b g : Nat) (n c : Nat) (off : Nat) (z : Int) (h : Rd w b (some ⟨g, 0, none⟩) n c off true) (hoff : off < n) (hn : n ≤ 1099511627776)
    (hz : w.cell? ⟨g, off, none⟩ = some (.int .u8 z)) (hz0 : 0 ≤ z) (hz1 : z ≤ 255) (hs : 27 < z % 32) (hm : ¬ (z % 32 = 31 ∧ 2 ≤ z / 32 ∧ z / 32 ≤ 5)) :
    Calls Try.prog 28 #[.pointer (some ⟨b, 0, none⟩)] w fun e w' => e = .returned (.agg #[.int .u8 0, .int .u64 0, .bool false]) ∧ Rd w' b (some ⟨g, 0, none⟩) n c ((off : Int) + 1) false ∧ w.grownBy w' (some b) := by
  obtain ⟨c0, c1, c2, f1, f2, hb⟩ := h.facts
  have hgl : g < w.heap.size := World.block_lt_of_cell? w _ hz
  have hand := and8_1f z hz0 hz1
  rcases (show z % 32 < 31 ∨ (z % 32 = 31 ∧ z / 32 < 2) ∨ (z % 32 = 31 ∧ 5 < z / 32) by omega) with hq | ⟨hq, hq'⟩ | ⟨hq, hq'⟩
  all_goals
    go_enter Try.func28, Try.ntmps28
    go_wp2
    go_quiet (fail)
    go_wp2
    go_quiet (fail)
    go_wp2
    refine bodyPost_ret (v := .agg #[.int .u8 0, .int .u64 0, .bool false]) (by simp [results, Try.results28, go_sem]) rfl ⟨rfl, ?_, ?_⟩
    · exact (((((((((h.alloc _).drewN _).set1 _).set2 _).other _ (by simp; omega) _).other _ (by simp; omega) _).other _ (by simp; omega) _)).alloc _)
    · exact gb_alloc (gb_new (gb_new (gb_new (gb_row (gb_row (gb_drewN (gb_alloc (World.grownBy.refl _ _) _) _) _ _) _ _) _ (by simp) _) _ (by simp) _) _ (by simp) _) _

end Go.Proofs.Qxb6000697a

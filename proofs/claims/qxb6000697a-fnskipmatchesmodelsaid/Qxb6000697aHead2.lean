/- The method head: an argument of 1, 2, 4 or 8 bytes that is cut short. -/
import Derived.Test.Qxb6000697aHead1
namespace Go.Proofs.Qxb6000697a
open Go.RowKit

theorem Rd.cast {w : World} {b : Nat} {ao : Option Addr} {n c : Nat} {x y : Int} {ok : Bool} (h : Rd w b ao n c x ok) (e : x = y) : Rd w b ao n c y ok := e ▸ h

theorem or64_join (x z : Int) (hx0 : 0 ≤ x) (hx1 : x ≤ 72057594037927935) (h0 : 0 ≤ z) (h1 : z ≤ 255) : bits .or .u64 (x * 256) z = x * 256 + z := by
  rw [u64_or (x * 256) z (by omega) (by omega) h0 (by omega), nat_join 8 _ _ (by omega) (by omega)]
  omega

set_option maxHeartbeats 1600000 in
theorem head_short (w : World) (b g : Nat) (n c : Nat) (off : Nat) (z : Int) (s : Nat) (hjs : (z % 32 = 24 ∧ s ≤ 1 ∧ 1 ≤ s) ∨ (z % 32 = 25 ∧ s ≤ 2 ∧ 2 ≤ s) ∨ (z % 32 = 26 ∧ s ≤ 4 ∧ 4 ≤ s) ∨ (z % 32 = 27 ∧ s ≤ 8 ∧ 8 ≤ s)) (h : Rd w b (some ⟨g, 0, none⟩) n c off true) (hoff : off < n) (hn : n ≤ 1099511627776)
    (hz : w.cell? ⟨g, off, none⟩ = some (.int .u8 z)) (hz0 : 0 ≤ z) (hz1 : z ≤ 255) (hm : n < off + 1 + s) :
    Calls Try.prog 28 #[.pointer (some ⟨b, 0, none⟩)] w fun e w' => e = .returned (.agg #[.int .u8 0, .int .u64 0, .bool false]) ∧ Rd w' b (some ⟨g, 0, none⟩) n c ((off : Int) + 1) false ∧ w.grownBy w' (some b) := by
  obtain ⟨c0, c1, c2, f1, f2, hb⟩ := h.facts
  have hgl : g < w.heap.size := World.block_lt_of_cell? w _ hz
  have hand := and8_1f z hz0 hz1
  rcases hjs with ⟨hs, hs1, hs2⟩ | ⟨hs, hs1, hs2⟩ | ⟨hs, hs1, hs2⟩ | ⟨hs, hs1, hs2⟩
  all_goals
    go_enter Try.func28, Try.ntmps28
    go_wp2
    go_quiet (fail)
    go_wp2
    go_quiet (fail)
    go_wp2
    go_quiet (fail)
    go_wp2
    refine bodyPost_ret (v := .agg #[.int .u8 0, .int .u64 0, .bool false]) (by simp [results, Try.results28, go_sem]) rfl ⟨rfl, ?_, ?_⟩
    · exact ((((((((((h.alloc _).drewN _).set1 _).alloc _).drewN _).set2 _).other _ (by simp; omega) _).other _ (by simp; omega) _).other _ (by simp; omega) _))
    · exact (gb_new (gb_new (gb_new (gb_row (gb_drewN (gb_alloc (gb_row (gb_drewN (gb_alloc (World.grownBy.refl _ _) _) _) _ _) _) _) _ _) _ (by simp) _) _ (by simp) _) _ (by simp) _)

end Go.Proofs.Qxb6000697a

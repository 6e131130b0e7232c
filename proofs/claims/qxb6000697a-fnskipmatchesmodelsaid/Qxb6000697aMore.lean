/- The contracts of advance and more. -/
import Derived.Test.Qxb6000697aRd
namespace Go.Proofs.Qxb6000697a
open Go.RowKit
set_option linter.unusedVariables false

set_option maxHeartbeats 400000 in
theorem advance_failed (w : World) (b : Nat) (ao : Option Addr) (n c : Nat) (off k : Int) (h : Rd w b ao n c off false) :
    Calls Try.prog 30 #[.pointer (some ⟨b, 0, none⟩), .int .u64 k] w fun e w' => e = .returned (.tuple #[]) ∧ Rd w' b ao n c off false ∧ w.grownBy w' (some b) := by
  obtain ⟨c0, c1, c2, f1, f2, hb⟩ := h.facts
  go_enter Try.func30, Try.ntmps30
  go_wp2
  go_quiet (fail)
  go_wp2
  exact bodyPost_ret (v := .tuple #[]) (by simp [results, Try.results30]) rfl ⟨rfl, (h.drewN _).set2 _, gb_row (gb_drewN (World.grownBy.refl _ _) _) _ _⟩

set_option maxHeartbeats 400000 in
theorem advance_over (w : World) (b : Nat) (ao : Option Addr) (n c : Nat) (off : Nat) (k : Int) (h : Rd w b ao n c off true) (hoff : off ≤ n) (hn : n ≤ 1099511627776) (hk : (n : Int) - off < k) :
    Calls Try.prog 30 #[.pointer (some ⟨b, 0, none⟩), .int .u64 k] w fun e w' => e = .returned (.tuple #[]) ∧ Rd w' b ao n c off false ∧ w.grownBy w' (some b) := by
  obtain ⟨c0, c1, c2, f1, f2, hb⟩ := h.facts
  go_enter Try.func30, Try.ntmps30
  go_wp2
  go_quiet (fail)
  go_wp2
  exact bodyPost_ret (v := .tuple #[]) (by simp [results, Try.results30]) rfl ⟨rfl, (h.drewN _).set2 _, gb_row (gb_drewN (World.grownBy.refl _ _) _) _ _⟩

set_option maxHeartbeats 400000 in
theorem advance_fits (w : World) (b : Nat) (ao : Option Addr) (n c : Nat) (off : Nat) (k : Int) (h : Rd w b ao n c off true) (hoff : off ≤ n) (hn : n ≤ 1099511627776) (hk0 : 0 ≤ k) (hk : k ≤ (n : Int) - off) :
    Calls Try.prog 30 #[.pointer (some ⟨b, 0, none⟩), .int .u64 k] w fun e w' => e = .returned (.tuple #[]) ∧ Rd w' b ao n c ((off : Int) + k) true ∧ w.grownBy w' (some b) := by
  obtain ⟨c0, c1, c2, f1, f2, hb⟩ := h.facts
  go_enter Try.func30, Try.ntmps30
  go_wp2
  go_quiet (fail)
  go_wp2
  go_end0
  exact ⟨rfl, (h.drewN _).set1 _, gb_row (gb_drewN (World.grownBy.refl _ _) _) _ _⟩

set_option maxHeartbeats 400000 in
theorem more_failed (w : World) (b : Nat) (ao : Option Addr) (n c : Nat) (off : Int) (m a : Int) (i : Bool) (k : Int) (h : Rd w b ao n c off false) :
    Calls Try.prog 31 #[.pointer (some ⟨b, 0, none⟩), .agg #[.int .u8 m, .int .u64 a, .bool i], .int .u64 k] w fun e w' => e = .returned (.bool false) ∧ Rd w' b ao n c off false ∧ w.grownBy w' (some b) := by
  obtain ⟨c0, c1, c2, f1, f2, hb⟩ := h.facts
  go_enter Try.func31, Try.ntmps31
  go_wp2
  go_ret
  exact ⟨rfl, h.alloc _, gb_alloc (World.grownBy.refl _ _) _⟩

set_option maxHeartbeats 400000 in
theorem more_def (w : World) (b : Nat) (ao : Option Addr) (n c : Nat) (off : Int) (m a : Int) (k : Int) (h : Rd w b ao n c off true) :
    Calls Try.prog 31 #[.pointer (some ⟨b, 0, none⟩), .agg #[.int .u8 m, .int .u64 a, .bool false], .int .u64 k] w fun e w' => e = .returned (.bool (decide (k < a))) ∧ Rd w' b ao n c off true ∧ w.grownBy w' (some b) := by
  obtain ⟨c0, c1, c2, f1, f2, hb⟩ := h.facts
  go_enter Try.func31, Try.ntmps31
  go_wp2
  go_ret
  exact ⟨rfl, h.alloc _, gb_alloc (World.grownBy.refl _ _) _⟩

set_option maxHeartbeats 400000 in
theorem more_stop (w : World) (b g : Nat) (n c : Nat) (off : Nat) (m a : Int) (k : Int) (h : Rd w b (some ⟨g, 0, none⟩) n c off true) (hoff : off < n) (hn : n ≤ 1099511627776) (hz : w.cell? ⟨g, off, none⟩ = some (.int .u8 255)) :
    Calls Try.prog 31 #[.pointer (some ⟨b, 0, none⟩), .agg #[.int .u8 m, .int .u64 a, .bool true], .int .u64 k] w fun e w' => e = .returned (.bool false) ∧ Rd w' b (some ⟨g, 0, none⟩) n c ((off : Int) + 1) true ∧ w.grownBy w' (some b) := by
  obtain ⟨c0, c1, c2, f1, f2, hb⟩ := h.facts
  have hgl : g < w.heap.size := World.block_lt_of_cell? w _ hz
  go_enter Try.func31, Try.ntmps31
  go_wp2
  go_quiet (fail)
  go_wp2
  go_ret
  exact ⟨rfl, ((h.alloc _).drewN _).set1 _, gb_row (gb_drewN (gb_alloc (World.grownBy.refl _ _) _) _) _ _⟩

set_option maxHeartbeats 400000 in
theorem more_on (w : World) (b g : Nat) (n c : Nat) (off : Nat) (m a : Int) (k z : Int) (h : Rd w b (some ⟨g, 0, none⟩) n c off true) (hoff : off < n) (hn : n ≤ 1099511627776) (hz : w.cell? ⟨g, off, none⟩ = some (.int .u8 z)) (hne : (z == 255) = false) :
    Calls Try.prog 31 #[.pointer (some ⟨b, 0, none⟩), .agg #[.int .u8 m, .int .u64 a, .bool true], .int .u64 k] w fun e w' => e = .returned (.bool true) ∧ Rd w' b (some ⟨g, 0, none⟩) n c off true ∧ w.grownBy w' (some b) := by
  obtain ⟨c0, c1, c2, f1, f2, hb⟩ := h.facts
  have hgl : g < w.heap.size := World.block_lt_of_cell? w _ hz
  go_enter Try.func31, Try.ntmps31
  go_wp2
  go_quiet (fail)
  go_wp2
  go_ret
  exact ⟨rfl, ((h.alloc _).drewN _), (gb_drewN (gb_alloc (World.grownBy.refl _ _) _) _)⟩

set_option maxHeartbeats 400000 in
theorem more_end (w : World) (b : Nat) (ao : Option Addr) (n c : Nat) (off : Nat) (m a : Int) (k : Int) (h : Rd w b ao n c off true) (hoff : n ≤ off) :
    Calls Try.prog 31 #[.pointer (some ⟨b, 0, none⟩), .agg #[.int .u8 m, .int .u64 a, .bool true], .int .u64 k] w fun e w' => e = .returned (.bool true) ∧ Rd w' b ao n c off true ∧ w.grownBy w' (some b) := by
  obtain ⟨c0, c1, c2, f1, f2, hb⟩ := h.facts
  have hoff' : decide (off < n) = false := by simp; omega
  go_enter Try.func31, Try.ntmps31
  go_wp2
  go_quiet (fail)
  go_wp2
  go_ret
  exact ⟨rfl, ((h.alloc _).drewN _), (gb_drewN (gb_alloc (World.grownBy.refl _ _) _) _)⟩
end Go.Proofs.Qxb6000697a

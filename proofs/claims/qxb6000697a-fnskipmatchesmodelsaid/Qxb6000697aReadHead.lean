/- The contracts of zzAtStop and zzReadHead. -/
import Derived.Test.Qxb6000697aRd
namespace Go.Proofs.Qxb6000697a
open Go.RowKit
set_option linter.unusedVariables false

/-- The slice (ao, zs.length, _) holds zs, at the head of a block. -/
def Dat (w : World) (ao : Option Addr) (zs : List Int) : Prop := zs.length = 0 ∨ ∃ g, ao = some ⟨g, 0, none⟩ ∧ Bts w g zs

set_option maxHeartbeats 400000 in
theorem atstop_any (w : World) (ao : Option Addr) (zs : List Int) (c p : Nat) (hs : Dat w ao zs) (hn : zs.length ≤ 1099511627776) :
    Calls Try.prog 26 #[.slice ao zs.length c, .int .i64 p] w fun e w' => e = .returned (.bool (decide (p < zs.length ∧ zs.getD p 0 = 255))) ∧ w' = w := by
  obtain ⟨n, hl⟩ : ∃ n, n = zs.length := ⟨_, rfl⟩
  by_cases hp : p < zs.length
  · rcases hs with h0 | ⟨g, rfl, hB⟩
    · omega
    have hcell := hB p hp
    obtain ⟨z, HZ⟩ : ∃ z, Hid (z = zs.getD p 0) := ⟨_, rfl⟩
    rw [← HZ.out] at hcell ⊢
    have HE : Hid (decide (p < zs.length ∧ z = 255) = (z == 255)) := by
      show _ = _
      by_cases h : z = 255 <;> simp [h, hp]
    rw [HE.out]
    rw [← hl] at hp hn ⊢
    clear hB hl HE
    go_enter Try.func26, Try.ntmps26
    go_wp2
    go_ret
    exact ⟨rfl, rfl⟩
  · have HE : Hid (decide (p < zs.length ∧ zs.getD p 0 = 255) = false) := by
      show _ = _
      simp [hp]
    rw [HE.out]
    rw [← hl] at hp hn ⊢
    clear hs hl HE
    have hp' : decide (p < n) = false := by simpa using hp
    go_enter Try.func26, Try.ntmps26
    go_wp2
    go_ret
    exact ⟨rfl, rfl⟩

set_option maxHeartbeats 400000 in
theorem rh_end (w : World) (ao : Option Addr) (n c p : Nat) (hp : n ≤ p) :
    Calls Try.prog 27 #[.slice ao n c, .int .i64 p] w fun e w' => e = .returned (.tuple #[.int .u8 0, .int .u64 0, .bool false, .int .i64 p, .bool false]) ∧ w' = w := by
  go_enter Try.func27, Try.ntmps27
  go_wp2
  exact bodyPost_ret (v := .tuple #[.int .u8 0, .int .u64 0, .bool false, .int .i64 p, .bool false]) (by simp [results, Try.results27, go_sem]) rfl ⟨rfl, rfl⟩

set_option maxHeartbeats 400000 in
theorem rh_indef (w : World) (g n c p : Nat) (z : Int) (hp : p < n) (hn : n ≤ 1099511627776) (hz : w.cell? ⟨g, p, none⟩ = some (.int .u8 z)) (hz0 : 0 ≤ z) (hz1 : z ≤ 255) (hs : z % 32 = 31) (hm : 2 ≤ z / 32) (hm' : z / 32 ≤ 5) :
    Calls Try.prog 27 #[.slice (some ⟨g, 0, none⟩) n c, .int .i64 p] w fun e w' => e = .returned (.tuple #[.int .u8 (z / 32), .int .u64 0, .bool true, .int .i64 ((p : Int) + 1), .bool true]) ∧ w' = w := by
  go_enter Try.func27, Try.ntmps27
  go_wp2
  exact bodyPost_ret (v := .tuple #[.int .u8 (z / 32), .int .u64 0, .bool true, .int .i64 ((p : Int) + 1), .bool true]) (by simp [results, Try.results27, go_sem]) rfl ⟨rfl, rfl⟩

set_option maxHeartbeats 800000 in
theorem rh_bad (w : World) (g n c p : Nat) (z : Int) (hp : p < n) (hn : n ≤ 1099511627776) (hz : w.cell? ⟨g, p, none⟩ = some (.int .u8 z)) (hz0 : 0 ≤ z) (hz1 : z ≤ 255) (hs : 27 < z % 32) (hm : ¬ (z % 32 = 31 ∧ 2 ≤ z / 32 ∧ z / 32 ≤ 5)) :
    Calls Try.prog 27 #[.slice (some ⟨g, 0, none⟩) n c, .int .i64 p] w fun e w' => e = .returned (.tuple #[.int .u8 0, .int .u64 0, .bool false, .int .i64 p, .bool false]) ∧ w' = w := by
  rcases (show z % 32 < 31 ∨ (z % 32 = 31 ∧ z / 32 < 2) ∨ (z % 32 = 31 ∧ 5 < z / 32) by omega) with hq | ⟨hq, hq'⟩ | ⟨hq, hq'⟩
  all_goals
    go_enter Try.func27, Try.ntmps27
    go_wp2
    exact bodyPost_ret (v := .tuple #[.int .u8 0, .int .u64 0, .bool false, .int .i64 p, .bool false]) (by simp [results, Try.results27, go_sem]) rfl ⟨rfl, rfl⟩

set_option maxHeartbeats 400000 in
theorem rh_small (w : World) (g n c p : Nat) (z : Int) (hp : p < n) (hn : n ≤ 1099511627776) (hz : w.cell? ⟨g, p, none⟩ = some (.int .u8 z)) (hz0 : 0 ≤ z) (hz1 : z ≤ 255) (hs : z % 32 < 24) :
    Calls Try.prog 27 #[.slice (some ⟨g, 0, none⟩) n c, .int .i64 p] w fun e w' => e = .returned (.tuple #[.int .u8 (z / 32), .int .u64 (z % 32), .bool false, .int .i64 ((p : Int) + 1), .bool true]) ∧ w' = w := by
  go_enter Try.func27, Try.ntmps27
  go_wp2
  exact bodyPost_ret (v := .tuple #[.int .u8 (z / 32), .int .u64 (z % 32), .bool false, .int .i64 ((p : Int) + 1), .bool true]) (by simp [results, Try.results27, go_sem]) rfl ⟨rfl, rfl⟩

set_option maxHeartbeats 1600000 in
theorem rh_short (w : World) (g n c p : Nat) (z : Int) (s : Nat) (hjs : (z % 32 = 24 ∧ s ≤ 1 ∧ 1 ≤ s) ∨ (z % 32 = 25 ∧ s ≤ 2 ∧ 2 ≤ s) ∨ (z % 32 = 26 ∧ s ≤ 4 ∧ 4 ≤ s) ∨ (z % 32 = 27 ∧ s ≤ 8 ∧ 8 ≤ s)) (hp : p < n) (hn : n ≤ 1099511627776) (hz : w.cell? ⟨g, p, none⟩ = some (.int .u8 z)) (hz0 : 0 ≤ z) (hz1 : z ≤ 255) (hm : n < p + 1 + s) :
    Calls Try.prog 27 #[.slice (some ⟨g, 0, none⟩) n c, .int .i64 p] w fun e w' => e = .returned (.tuple #[.int .u8 0, .int .u64 0, .bool false, .int .i64 p, .bool false]) ∧ w' = w := by
  rcases hjs with ⟨hs, hs1, hs2⟩ | ⟨hs, hs1, hs2⟩ | ⟨hs, hs1, hs2⟩ | ⟨hs, hs1, hs2⟩
  all_goals
    go_enter Try.func27, Try.ntmps27
    go_wp2
    exact bodyPost_ret (v := .tuple #[.int .u8 0, .int .u64 0, .bool false, .int .i64 p, .bool false]) (by simp [results, Try.results27, go_sem]) rfl ⟨rfl, rfl⟩

theorem ret5 {m a o o' : Int} {i k : Bool} {a' : Int} (h : a = a') (h2 : o = o') : Ending.returned (.tuple #[.int .u8 m, .int .u64 a, .bool i, .int .i64 o, .bool k]) = .returned (.tuple #[.int .u8 m, .int .u64 a', .bool i, .int .i64 o', .bool k]) := by rw [h, h2]

set_option maxHeartbeats 1600000 in
theorem rh_long (w : World) (g : Nat) (zs : List Int) (n c p : Nat) (hZ : Byt zs) (hB : Bts w g zs) (hl : zs.length = n) (z : Int) (s : Nat) (hjs : (z % 32 = 24 ∧ s ≤ 1 ∧ 1 ≤ s) ∨ (z % 32 = 25 ∧ s ≤ 2 ∧ 2 ≤ s) ∨ (z % 32 = 26 ∧ s ≤ 4 ∧ 4 ≤ s) ∨ (z % 32 = 27 ∧ s ≤ 8 ∧ 8 ≤ s)) (hp : p < n) (hn : n ≤ 1099511627776) (hz : w.cell? ⟨g, p, none⟩ = some (.int .u8 z)) (hz0 : 0 ≤ z) (hz1 : z ≤ 255) (hm : p + 1 + s ≤ n) :
    Calls Try.prog 27 #[.slice (some ⟨g, 0, none⟩) n c, .int .i64 p] w fun e w' => e = .returned (.tuple #[.int .u8 (z / 32), .int .u64 (beAt zs (p + 1) s), .bool false, .int .i64 ((p : Int) + 1 + s), .bool true]) ∧ w' = w := by
  rcases hjs with ⟨hs, hs1, hs2⟩ | ⟨hs, hs1, hs2⟩ | ⟨hs, hs1, hs2⟩ | ⟨hs, hs1, hs2⟩
  all_goals
    go_enter Try.func27, Try.ntmps27
    go_wp2
    go_loop [13, 14] (fun A K => ∃ (k : Nat) (x : Int), k ≤ s ∧ K = .int .i64 k ∧ A = .int .u64 x ∧ Hid (x = beAt zs (p + 1) k)) (fun _ K => s - (intOf K).toNat)
    case atStart => exact ⟨0, 0, by omega, rfl, rfl, rfl⟩
    case round =>
      obtain ⟨k, x, hk, rfl, rfl, HX⟩ := hrel
      by_cases hlt : k < s
      · obtain ⟨y, HY⟩ : ∃ y, Hid (y = zs.getD (p + 1 + k) 0) := ⟨_, rfl⟩
        have hyc : w.cell? ⟨g, p + 1 + k, none⟩ = some (.int .u8 y) := by rw [HY.out]; exact hB (p + 1 + k) (by omega)
        have hy0 : 0 ≤ y ∧ y ≤ 255 := by rw [HY.out]; exact hZ _
        have hx0 : 0 ≤ x ∧ x ≤ 72057594037927935 := by rw [HX.out]; exact beAt_56 zs hZ _ _ (by omega)
        obtain ⟨hy0, hy1⟩ := hy0
        obtain ⟨hx0, hx1⟩ := hx0
        go_wp2
        go_round
        case rel =>
          refine ⟨k + 1, x * 256 + y, by omega, by go_num, rfl, ?_⟩
          show _ = beAt zs (p + 1) k * 256 + zs.getD (p + 1 + k) 0
          rw [← HX.out, ← HY.out]
        case measure => simp [intOf]; omega
      · obtain rfl : s = k := by omega
        go_wp2
        refine bodyPost_ret (by simp [results, Try.results27, go_sem]; rfl) rfl ⟨ret5 HX.out (by omega), rfl⟩

theorem rh_some (w : World) (ao : Option Addr) (zs : List Int) (c p : Nat) (m a : Int) (i : Bool) (o : Nat) (hZ : Byt zs) (hn : zs.length ≤ 1099511627776) (hs : Dat w ao zs) (hF : headF zs p = some (m, a, i, o)) :
    Calls Try.prog 27 #[.slice ao zs.length c, .int .i64 p] w fun e w' => e = .returned (.tuple #[.int .u8 m, .int .u64 a, .bool i, .int .i64 o, .bool true]) ∧ w' = w := by
  unfold headF at hF
  by_cases h1 : zs.length ≤ p
  · rw [if_pos h1] at hF; cases hF
  rw [if_neg h1] at hF
  rcases hs with hs | ⟨g, rfl, hB⟩
  · omega
  have hb := hZ p
  have hc := hB p (by omega)
  by_cases h2 : zs.getD p 0 % 32 < 24
  · rw [if_pos h2] at hF
    simp only [Option.some.injEq, Prod.mk.injEq] at hF
    obtain ⟨rfl, rfl, rfl, rfl⟩ := hF
    exact (rh_small w g zs.length c p _ (by omega) hn hc hb.1 hb.2 h2)
  rw [if_neg h2] at hF
  by_cases h3 : zs.getD p 0 % 32 ≤ 27
  · rw [if_pos h3] at hF
    by_cases h4 : zs.length < p + 1 + szF (zs.getD p 0)
    · rw [if_pos h4] at hF; cases hF
    · rw [if_neg h4] at hF
      simp only [Option.some.injEq, Prod.mk.injEq] at hF
      obtain ⟨rfl, rfl, rfl, rfl⟩ := hF
      refine (rh_long w g zs zs.length c p hZ hB rfl _ (szF (zs.getD p 0)) (szF_of _ h2 h3) (by omega) hn hc hb.1 hb.2 (by omega)).mono ?_
      rintro e w' ⟨rfl, hw⟩
      exact ⟨ret5 rfl (by omega), hw⟩
  rw [if_neg h3] at hF
  by_cases h5 : zs.getD p 0 % 32 = 31 ∧ 2 ≤ zs.getD p 0 / 32 ∧ zs.getD p 0 / 32 ≤ 5
  · rw [if_pos h5] at hF
    simp only [Option.some.injEq, Prod.mk.injEq] at hF
    obtain ⟨rfl, rfl, rfl, rfl⟩ := hF
    exact (rh_indef w g zs.length c p _ (by omega) hn hc hb.1 hb.2 h5.1 h5.2.1 h5.2.2)
  · rw [if_neg h5] at hF; cases hF

theorem rh_none (w : World) (ao : Option Addr) (zs : List Int) (c p : Nat) (hZ : Byt zs) (hn : zs.length ≤ 1099511627776) (hs : Dat w ao zs) (hF : headF zs p = none) :
    Calls Try.prog 27 #[.slice ao zs.length c, .int .i64 p] w fun e w' => e = .returned (.tuple #[.int .u8 0, .int .u64 0, .bool false, .int .i64 p, .bool false]) ∧ w' = w := by
  unfold headF at hF
  by_cases h1 : zs.length ≤ p
  · exact rh_end w ao zs.length c p h1
  rw [if_neg h1] at hF
  rcases hs with hs | ⟨g, rfl, hB⟩
  · omega
  have hb := hZ p
  have hc := hB p (by omega)
  by_cases h2 : zs.getD p 0 % 32 < 24
  · rw [if_pos h2] at hF; cases hF
  rw [if_neg h2] at hF
  by_cases h3 : zs.getD p 0 % 32 ≤ 27
  · rw [if_pos h3] at hF
    by_cases h4 : zs.length < p + 1 + szF (zs.getD p 0)
    · exact (rh_short w g zs.length c p _ (szF (zs.getD p 0)) (szF_of _ h2 h3) (by omega) hn hc hb.1 hb.2 h4)
    · rw [if_neg h4] at hF; cases hF
  rw [if_neg h3] at hF
  by_cases h5 : zs.getD p 0 % 32 = 31 ∧ 2 ≤ zs.getD p 0 / 32 ∧ zs.getD p 0 / 32 ≤ 5
  · rw [if_pos h5] at hF; cases hF
  · exact (rh_bad w g zs.length c p _ (by omega) hn hc hb.1 hb.2 (by omega) h5)

end Go.Proofs.Qxb6000697a

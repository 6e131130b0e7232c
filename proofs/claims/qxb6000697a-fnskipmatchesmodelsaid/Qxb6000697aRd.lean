/- The reader's block in memory, and what each step of a walk does to it. -/
import Derived.Test.Qxb6000697aEnc
import Derived.WalkSpells
import Derived.Deep.QuietTactic
import Derived.BigQuiet
namespace Go.Proofs.Qxb6000697a
open Go.RowKit

/-- Block b is a reader over the slice (ao, n, c), standing at off, sound or not. -/
structure Rd (w : World) (b : Nat) (ao : Option Addr) (n c : Nat) (off : Int) (ok : Bool) : Prop where
  blk : w.heap[b]? = some (.cells #[.slice ao n c, .int .i64 off, .bool ok] 44 (0, 0))

theorem Rd.facts {w : World} {b : Nat} {ao : Option Addr} {n c : Nat} {off : Int} {ok : Bool} (h : Rd w b ao n c off ok) :
    w.cell? ⟨b, 0, none⟩ = some (.slice ao n c) ∧ w.cell? ⟨b, 1, none⟩ = some (.int .i64 off) ∧ w.cell? ⟨b, 2, none⟩ = some (.bool ok) ∧
    w.frozen? ⟨b, 1, none⟩ = false ∧ w.frozen? ⟨b, 2, none⟩ = false ∧ b < w.heap.size := by
  have h := h.blk
  refine ⟨by simp [World.cell?, h], by simp [World.cell?, h], by simp [World.cell?, h], by simp [World.frozen?, h], by simp [World.frozen?, h], lt_of_block h⟩

theorem Rd.alloc {w : World} {b : Nat} {ao : Option Addr} {n c : Nat} {off : Int} {ok : Bool} (h : Rd w b ao n c off ok) (o : Obj) : Rd (w.alloc o) b ao n c off ok := by
  constructor; rw [Below.heap_alloc _ _ _ (lt_of_block h.blk)]; exact h.blk
theorem Rd.drew {w : World} {b : Nat} {ao : Option Addr} {n c : Nat} {off : Int} {ok : Bool} (h : Rd w b ao n c off ok) : Rd w.drew b ao n c off ok := ⟨h.blk⟩
theorem Rd.drewN {w : World} {b : Nat} {ao : Option Addr} {n c : Nat} {off : Int} {ok : Bool} (h : Rd w b ao n c off ok) (k : Nat) : Rd (w.drewN k) b ao n c off ok := ⟨h.blk⟩
theorem Rd.other {w : World} {b : Nat} {ao : Option Addr} {n c : Nat} {off : Int} {ok : Bool} (h : Rd w b ao n c off ok) (p : Addr) (hp : b ≠ p.block) (v : Value) : Rd (w.setCell p v) b ao n c off ok := by
  constructor; rw [Below.heap_setCell _ _ _ _ hp]; exact h.blk
theorem Rd.set1 {w : World} {b : Nat} {ao : Option Addr} {n c : Nat} {off : Int} {ok : Bool} (h : Rd w b ao n c off ok) (x : Int) : Rd (w.setCell ⟨b, 1, none⟩ (.int .i64 x)) b ao n c x ok := by
  constructor; rw [heap_setCell_same w b 1 _ _ _ h.blk]; rfl
theorem Rd.set2 {w : World} {b : Nat} {ao : Option Addr} {n c : Nat} {off : Int} {ok : Bool} (h : Rd w b ao n c off ok) (x : Bool) : Rd (w.setCell ⟨b, 2, none⟩ (.bool x)) b ao n c off x := by
  constructor; rw [heap_setCell_same w b 2 _ _ _ h.blk]; rfl
theorem Rd.grown {w w' : World} {b : Nat} {ao : Option Addr} {n c : Nat} {off : Int} {ok : Bool} (h : Rd w b ao n c off ok) {r : Option Nat} (hg : w.grownBy w' r) (hr : some b ≠ r) : Rd w' b ao n c off ok := by
  constructor; rw [hg.block b (lt_of_block h.blk) hr]; exact h.blk

theorem gb_trans {a b c : World} {r : Option Nat} (h : a.grownBy b r) (k : b.grownBy c r) : a.grownBy c r :=
  ⟨k.os.trans h.os, k.tape.trans h.tape, k.output.trans h.output, Nat.le_trans h.size k.size, fun i hi hr => (k.block i (Nat.lt_of_lt_of_le hi h.size) hr).trans (h.block i hi hr)⟩
theorem gb_alloc {a w : World} {r : Option Nat} (h : a.grownBy w r) (o : Obj) : a.grownBy (w.alloc o) r := gb_trans h (World.grownBy_alloc w o r)
theorem gb_drew {a w : World} {r : Option Nat} (h : a.grownBy w r) : a.grownBy w.drew r := ⟨h.os, h.tape, h.output, h.size, h.block⟩
theorem gb_drewN {a w : World} {r : Option Nat} (h : a.grownBy w r) (k : Nat) : a.grownBy (w.drewN k) r := ⟨h.os, h.tape, h.output, h.size, h.block⟩
theorem gb_row {a w : World} {b : Nat} (h : a.grownBy w (some b)) (j : Nat) (v : Value) : a.grownBy (w.setCell ⟨b, j, none⟩ v) (some b) :=
  gb_trans h ⟨rfl, rfl, rfl, by simp [World.setCell], fun k _ hr => Below.heap_setCell _ _ _ _ (fun e => hr (by rw [e]))⟩
theorem gb_new {a w : World} {r : Option Nat} (h : a.grownBy w r) (p : Addr) (hp : a.heap.size ≤ p.block) (v : Value) : a.grownBy (w.setCell p v) r :=
  ⟨h.os, h.tape, h.output, by simpa [World.setCell] using h.size, fun k hk hr => by rw [Below.heap_setCell _ _ _ _ (by omega)]; exact h.block k hk hr⟩
/-- What is below the reader's block stays below whatever the reader does. -/
theorem gb_below {w w' : World} {b B : Nat} (h : w.grownBy w' (some b)) (hB : B ≤ b) (hs : b < w.heap.size) : Below B w w' :=
  (Below.refl B w).grown h (by omega) (fun k hk => by cases hk; exact hB)
theorem gb_weak {w w' : World} {r : Option Nat} (h : w.grownBy w' none) : w.grownBy w' r := ⟨h.os, h.tape, h.output, h.size, fun k hk _ => h.block k hk (by simp)⟩

/-- Block q is a head in memory. -/
structure Hd (w : World) (q : Nat) (m a : Int) (i : Bool) : Prop where
  blk : w.heap[q]? = some (.cells #[.int .u8 m, .int .u64 a, .bool i] 51 (0, 0))

theorem Hd.facts {w : World} {q : Nat} {m a : Int} {i : Bool} (h : Hd w q m a i) :
    w.cell? ⟨q, 0, none⟩ = some (.int .u8 m) ∧ w.cell? ⟨q, 1, none⟩ = some (.int .u64 a) ∧ w.cell? ⟨q, 2, none⟩ = some (.bool i) ∧
    w.frozen? ⟨q, 0, none⟩ = false ∧ w.frozen? ⟨q, 1, none⟩ = false ∧ w.frozen? ⟨q, 2, none⟩ = false ∧ q < w.heap.size := by
  have h := h.blk
  refine ⟨by simp [World.cell?, h], by simp [World.cell?, h], by simp [World.cell?, h], by simp [World.frozen?, h], by simp [World.frozen?, h], by simp [World.frozen?, h], lt_of_block h⟩
theorem Hd.born (w : World) (q : Nat) (hq : q = w.heap.size) (m a : Int) (i : Bool) : Hd (w.alloc (.cells #[.int .u8 m, .int .u64 a, .bool i] 51)) q m a i := by
  subst hq; exact ⟨heap_alloc_new w _⟩
theorem Hd.alloc {w : World} {q : Nat} {m a : Int} {i : Bool} (h : Hd w q m a i) (o : Obj) : Hd (w.alloc o) q m a i := by
  constructor; rw [Below.heap_alloc _ _ _ (lt_of_block h.blk)]; exact h.blk
theorem Hd.drewN {w : World} {q : Nat} {m a : Int} {i : Bool} (h : Hd w q m a i) (k : Nat) : Hd (w.drewN k) q m a i := ⟨h.blk⟩
theorem Hd.other {w : World} {q : Nat} {m a : Int} {i : Bool} (h : Hd w q m a i) (p : Addr) (hp : q ≠ p.block) (v : Value) : Hd (w.setCell p v) q m a i := by
  constructor; rw [Below.heap_setCell _ _ _ _ hp]; exact h.blk
theorem Hd.set1 {w : World} {q : Nat} {m a : Int} {i : Bool} (h : Hd w q m a i) (x : Int) : Hd (w.setCell ⟨q, 1, none⟩ (.int .u64 x)) q m x i := by
  constructor; rw [heap_setCell_same w q 1 _ _ _ h.blk]; rfl
theorem Hd.grown {w w' : World} {q : Nat} {m a : Int} {i : Bool} (h : Hd w q m a i) {r : Option Nat} (hg : w.grownBy w' r) (hr : some q ≠ r) : Hd w' q m a i := by
  constructor; rw [hg.block q (lt_of_block h.blk) hr]; exact h.blk

/-- The bytes at the head of block g. -/
def Bts (w : World) (g : Nat) (zs : List Int) : Prop := ∀ j, j < zs.length → w.cell? ⟨g, j, none⟩ = some (.int .u8 (zs.getD j 0))
theorem Bts.lt {w : World} {g : Nat} {zs : List Int} (h : Bts w g zs) (hn : 0 < zs.length) : g < w.heap.size := World.block_lt_of_cell? w _ (h 0 hn)
theorem Bts.grown {w w' : World} {g : Nat} {zs : List Int} (h : Bts w g zs) {r : Option Nat} (hg : w.grownBy w' r) (hr : some g ≠ r) : Bts w' g zs :=
  fun j hj => hg.cell (h j hj) hr

end Go.Proofs.Qxb6000697a

/- The stack of frames in memory. -/
import Derived.Test.Qxb6000697aReadHead
import Derived.Test.Qxb6000697aModelF
namespace Go.Proofs.Qxb6000697a
open Go.RowKit
set_option linter.unusedVariables false

theorem Try.info47 : (Try.prog.info? 47).map (fun i => (i.zero, i.size, i.bytes)) = some (some (.agg #[.int .i64 0, .int .u64 0, .bool false, .int .u8 0]), 4, 24) := by kernel_rfl

def frC : Fr → List Value
  | (k, l, od, mj) => [.int .i64 k, .int .u64 l, .bool od, .int .u8 mj]

/-- The stack's cells, the top last. -/
def stC : List Fr → List Value
  | [] => []
  | x :: S => stC S ++ frC x

theorem frC_len (x : Fr) : (frC x).length = 4 := by obtain ⟨k, l, od, mj⟩ := x; rfl
theorem stC_len : ∀ S : List Fr, (stC S).length = S.length * 4
  | [] => rfl
  | x :: S => by rw [stC, List.length_append, stC_len S, frC_len, List.length_cons]; omega

theorem stC_at (x : Fr) (S : List Fr) (j : Nat) (hj : j < 4) : (stC (x :: S))[S.length * 4 + j]? = (frC x)[j]? := by
  rw [stC, List.getElem?_append_right (by rw [stC_len]; omega), stC_len]
  congr 1; omega

theorem stC_set (x y : Fr) (S : List Fr) (j : Nat) (v : Value) (h : (frC x).set j v = frC y) : (stC (x :: S)).set (S.length * 4 + j) v = stC (y :: S) := by
  rw [stC, stC, List.set_append, if_neg (by rw [stC_len]; omega), stC_len, show S.length * 4 + j - S.length * 4 = j by omega, h]

structure Stk (w : World) (B : Nat) (v : Value) (S : List Fr) : Prop where
  shape : ∃ g cap, v = .slice (some ⟨g, 0, none⟩) S.length cap
  own : w.ownsRow B 47 4 v S.length (stC S)

theorem Stk.cap {w : World} {B g n cap : Nat} {S : List Fr} (h : Stk w B (.slice (some ⟨g, 0, none⟩) n cap) S) : n = S.length ∧ n ≤ cap ∧ B ≤ g ∧ g < w.heap.size := by
  obtain ⟨g', cap', e⟩ := h.shape
  cases e
  have hlt := h.own.lt g rfl
  rcases h.own.2 with ⟨h0, _⟩ | ⟨g', cap', cur, hv, hg, hh, hn, hcap, hsz, htake⟩
  · cases h0
  · cases hv; exact ⟨rfl, hn, hlt.1, hlt.2⟩

theorem Stk.top {w : World} {B g n cap : Nat} {x : Fr} {S : List Fr} (h : Stk w B (.slice (some ⟨g, 0, none⟩) n cap) (x :: S)) :
    (∀ j, j < 4 → w.cell? ⟨g, S.length * 4 + j, none⟩ = (frC x)[j]?) ∧ ∀ j, w.frozen? ⟨g, j, none⟩ = false := by
  obtain ⟨rfl, _, _, _⟩ := h.cap
  exact ⟨fun j hj => by rw [h.own.cellAt (S.length * 4 + j) (by simp; omega), stC_at x S j hj], fun j => h.own.frozenAt j⟩

theorem Stk.pop {w : World} {B g n cap : Nat} {x : Fr} {S : List Fr} (h : Stk w B (.slice (some ⟨g, 0, none⟩) n cap) (x :: S)) : Stk w B (.slice (some ⟨g, 0, none⟩) S.length cap) S := by
  obtain ⟨rfl, _, _, _⟩ := h.cap
  exact ⟨⟨g, cap, rfl⟩, ownsRow_pop (stC_len S) h.own⟩

theorem Stk.set {w : World} {B g n cap : Nat} {x y : Fr} {S : List Fr} (h : Stk w B (.slice (some ⟨g, 0, none⟩) n cap) (x :: S)) (j : Nat) (v : Value) (hv : (frC x).set j v = frC y) :
    Stk (w.setCell ⟨g, S.length * 4 + j, none⟩ v) B (.slice (some ⟨g, 0, none⟩) n cap) (y :: S) := by
  obtain ⟨rfl, _, _, _⟩ := h.cap
  refine ⟨⟨g, cap, rfl⟩, ?_⟩
  have := (h.own.stored (S.length * 4 + j) v).1
  rw [stC_set x y S j v hv] at this
  exact this

theorem Stk.kept {w w' : World} {B : Nat} {v : Value} {S : List Fr} (h : Stk w B v S) (hg : w.grownBy w' none) : Stk w' B v S := ⟨h.shape, h.own.kept hg (by
  obtain ⟨g, cap, rfl⟩ := h.shape
  right; simp [Value.ownBlock])⟩

theorem frC_one (x : Fr) : ∀ u ∈ frC x, u.oneCell' = true := by
  obtain ⟨k, l, od, mj⟩ := x
  intro u hu
  simp only [frC, List.mem_cons, List.not_mem_nil, or_false] at hu
  rcases hu with rfl | rfl | rfl | rfl <;> rfl

theorem fr_new (w : World) (x : Fr) (t : TypeId) : ∀ j u, (frC x)[j]? = some u → (w.alloc (.cells (frC x).toArray t)).cell? ((⟨w.heap.size, 0, none⟩ : Addr).add j) = some u := by
  intro j u hj
  rw [Addr.add_lit, Nat.zero_add, World.cell?_alloc_at _ _ _ _ rfl]
  simpa using hj

/-- Behind an append. -/
theorem Stk.pushed {w' : World} {B : Nat} {v' : Value} {x : Fr} {S : List Fr} (h : w'.ownsRow B 47 4 v' (S.length + 1) (stC S ++ frC x)) : Stk w' B v' (x :: S) := by
  refine ⟨?_, h⟩
  rcases h.2 with ⟨h0, h1⟩ | ⟨g, cap, cur, hv, _⟩
  · omega
  · exact ⟨g, cap, hv⟩

end Go.Proofs.Qxb6000697a

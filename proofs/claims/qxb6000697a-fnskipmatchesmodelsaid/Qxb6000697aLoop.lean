/- The reader with a stack: its loop's pieces, its frame. Laid by program. -/
import Derived.Test.Qxb6000697aStk
import Derived.Deep.LoopGhost
namespace Go.Proofs.Qxb6000697a
open Go.RowKit
set_option linter.unusedVariables false

/-! ### The loop's code, taken out of the translation -/
def firstLoop : Code → Option Code
  | .loop c => some c
  | .seq a b => match firstLoop a with
    | some c => some c
    | none => firstLoop b
  | .block _ c => firstLoop c
  | .scope c => firstLoop c
  | .cond _ a b => match firstLoop a with
    | some c => some c
    | none => firstLoop b
  | _ => none
def bodyOf (fn : Func) : Code := (fn.body.bind firstLoop).getD .skip
def blkOf : Code → Code
  | .block _ c => c
  | c => c
def fstOf : Code → Code
  | .seq a _ => a
  | c => c
def sndOf : Code → Code
  | .seq _ b => b
  | c => c
/-- The first half of a round (which container is open), behind the stack's length. -/
def codeX (fn : Func) : Code := fstOf (sndOf (blkOf (bodyOf fn)))
/-- The second half: read a head; -/
def codeY (fn : Func) : Code := sndOf (sndOf (blkOf (bodyOf fn)))
/-- past the tags; -/
def codeB (fn : Func) : Code := fstOf (sndOf (codeY fn))
/-- what the head asks. -/
def codeZ (fn : Func) : Code := sndOf (sndOf (codeY fn))

set_option maxRecDepth 100000 in
theorem lit254 (t : Array Value) (h : t.size = 254) : t = #[t.getD 0 undef, t.getD 1 undef, t.getD 2 undef, t.getD 3 undef, t.getD 4 undef, t.getD 5 undef, t.getD 6 undef, t.getD 7 undef, t.getD 8 undef, t.getD 9 undef, t.getD 10 undef, t.getD 11 undef, t.getD 12 undef, t.getD 13 undef, t.getD 14 undef, t.getD 15 undef, t.getD 16 undef, t.getD 17 undef, t.getD 18 undef, t.getD 19 undef, t.getD 20 undef, t.getD 21 undef, t.getD 22 undef, t.getD 23 undef, t.getD 24 undef, t.getD 25 undef, t.getD 26 undef, t.getD 27 undef, t.getD 28 undef, t.getD 29 undef, t.getD 30 undef, t.getD 31 undef, t.getD 32 undef, t.getD 33 undef, t.getD 34 undef, t.getD 35 undef, t.getD 36 undef, t.getD 37 undef, t.getD 38 undef, t.getD 39 undef, t.getD 40 undef, t.getD 41 undef, t.getD 42 undef, t.getD 43 undef, t.getD 44 undef, t.getD 45 undef, t.getD 46 undef, t.getD 47 undef, t.getD 48 undef, t.getD 49 undef, t.getD 50 undef, t.getD 51 undef, t.getD 52 undef, t.getD 53 undef, t.getD 54 undef, t.getD 55 undef, t.getD 56 undef, t.getD 57 undef, t.getD 58 undef, t.getD 59 undef, t.getD 60 undef, t.getD 61 undef, t.getD 62 undef, t.getD 63 undef, t.getD 64 undef, t.getD 65 undef, t.getD 66 undef, t.getD 67 undef, t.getD 68 undef, t.getD 69 undef, t.getD 70 undef, t.getD 71 undef, t.getD 72 undef, t.getD 73 undef, t.getD 74 undef, t.getD 75 undef, t.getD 76 undef, t.getD 77 undef, t.getD 78 undef, t.getD 79 undef, t.getD 80 undef, t.getD 81 undef, t.getD 82 undef, t.getD 83 undef, t.getD 84 undef, t.getD 85 undef, t.getD 86 undef, t.getD 87 undef, t.getD 88 undef, t.getD 89 undef, t.getD 90 undef, t.getD 91 undef, t.getD 92 undef, t.getD 93 undef, t.getD 94 undef, t.getD 95 undef, t.getD 96 undef, t.getD 97 undef, t.getD 98 undef, t.getD 99 undef, t.getD 100 undef, t.getD 101 undef, t.getD 102 undef, t.getD 103 undef, t.getD 104 undef, t.getD 105 undef, t.getD 106 undef, t.getD 107 undef, t.getD 108 undef, t.getD 109 undef, t.getD 110 undef, t.getD 111 undef, t.getD 112 undef, t.getD 113 undef, t.getD 114 undef, t.getD 115 undef, t.getD 116 undef, t.getD 117 undef, t.getD 118 undef, t.getD 119 undef, t.getD 120 undef, t.getD 121 undef, t.getD 122 undef, t.getD 123 undef, t.getD 124 undef, t.getD 125 undef, t.getD 126 undef, t.getD 127 undef, t.getD 128 undef, t.getD 129 undef, t.getD 130 undef, t.getD 131 undef, t.getD 132 undef, t.getD 133 undef, t.getD 134 undef, t.getD 135 undef, t.getD 136 undef, t.getD 137 undef, t.getD 138 undef, t.getD 139 undef, t.getD 140 undef, t.getD 141 undef, t.getD 142 undef, t.getD 143 undef, t.getD 144 undef, t.getD 145 undef, t.getD 146 undef, t.getD 147 undef, t.getD 148 undef, t.getD 149 undef, t.getD 150 undef, t.getD 151 undef, t.getD 152 undef, t.getD 153 undef, t.getD 154 undef, t.getD 155 undef, t.getD 156 undef, t.getD 157 undef, t.getD 158 undef, t.getD 159 undef, t.getD 160 undef, t.getD 161 undef, t.getD 162 undef, t.getD 163 undef, t.getD 164 undef, t.getD 165 undef, t.getD 166 undef, t.getD 167 undef, t.getD 168 undef, t.getD 169 undef, t.getD 170 undef, t.getD 171 undef, t.getD 172 undef, t.getD 173 undef, t.getD 174 undef, t.getD 175 undef, t.getD 176 undef, t.getD 177 undef, t.getD 178 undef, t.getD 179 undef, t.getD 180 undef, t.getD 181 undef, t.getD 182 undef, t.getD 183 undef, t.getD 184 undef, t.getD 185 undef, t.getD 186 undef, t.getD 187 undef, t.getD 188 undef, t.getD 189 undef, t.getD 190 undef, t.getD 191 undef, t.getD 192 undef, t.getD 193 undef, t.getD 194 undef, t.getD 195 undef, t.getD 196 undef, t.getD 197 undef, t.getD 198 undef, t.getD 199 undef, t.getD 200 undef, t.getD 201 undef, t.getD 202 undef, t.getD 203 undef, t.getD 204 undef, t.getD 205 undef, t.getD 206 undef, t.getD 207 undef, t.getD 208 undef, t.getD 209 undef, t.getD 210 undef, t.getD 211 undef, t.getD 212 undef, t.getD 213 undef, t.getD 214 undef, t.getD 215 undef, t.getD 216 undef, t.getD 217 undef, t.getD 218 undef, t.getD 219 undef, t.getD 220 undef, t.getD 221 undef, t.getD 222 undef, t.getD 223 undef, t.getD 224 undef, t.getD 225 undef, t.getD 226 undef, t.getD 227 undef, t.getD 228 undef, t.getD 229 undef, t.getD 230 undef, t.getD 231 undef, t.getD 232 undef, t.getD 233 undef, t.getD 234 undef, t.getD 235 undef, t.getD 236 undef, t.getD 237 undef, t.getD 238 undef, t.getD 239 undef, t.getD 240 undef, t.getD 241 undef, t.getD 242 undef, t.getD 243 undef, t.getD 244 undef, t.getD 245 undef, t.getD 246 undef, t.getD 247 undef, t.getD 248 undef, t.getD 249 undef, t.getD 250 undef, t.getD 251 undef, t.getD 252 undef, t.getD 253 undef] := by
  have e : t = ((List.range 254).map fun i => t.getD i undef).toArray := by
    apply Array.ext
    · simp [h]
    · intro i h1 h2
      simp [Array.getD, h1]
  exact e

structure FY (a : Act) (x0 x6 x7 x8 : Value) : Prop where
  defs : a.defers = []
  size : a.tmps.size = 254
  s0 : a.tmps.getD 0 undef = x0
  s6 : a.tmps.getD 6 undef = x6
  s7 : a.tmps.getD 7 undef = x7
  s8 : a.tmps.getD 8 undef = x8

set_option maxRecDepth 100000 in
theorem FY.lit {a : Act} {x0 x6 x7 x8 : Value} (h : FY a x0 x6 x7 x8) : ∃ u : Nat → Value, a = ⟨#[x0, u 1, u 2, u 3, u 4, u 5, x6, x7, x8, u 9, u 10, u 11, u 12, u 13, u 14, u 15, u 16, u 17, u 18, u 19, u 20, u 21, u 22, u 23, u 24, u 25, u 26, u 27, u 28, u 29, u 30, u 31, u 32, u 33, u 34, u 35, u 36, u 37, u 38, u 39, u 40, u 41, u 42, u 43, u 44, u 45, u 46, u 47, u 48, u 49, u 50, u 51, u 52, u 53, u 54, u 55, u 56, u 57, u 58, u 59, u 60, u 61, u 62, u 63, u 64, u 65, u 66, u 67, u 68, u 69, u 70, u 71, u 72, u 73, u 74, u 75, u 76, u 77, u 78, u 79, u 80, u 81, u 82, u 83, u 84, u 85, u 86, u 87, u 88, u 89, u 90, u 91, u 92, u 93, u 94, u 95, u 96, u 97, u 98, u 99, u 100, u 101, u 102, u 103, u 104, u 105, u 106, u 107, u 108, u 109, u 110, u 111, u 112, u 113, u 114, u 115, u 116, u 117, u 118, u 119, u 120, u 121, u 122, u 123, u 124, u 125, u 126, u 127, u 128, u 129, u 130, u 131, u 132, u 133, u 134, u 135, u 136, u 137, u 138, u 139, u 140, u 141, u 142, u 143, u 144, u 145, u 146, u 147, u 148, u 149, u 150, u 151, u 152, u 153, u 154, u 155, u 156, u 157, u 158, u 159, u 160, u 161, u 162, u 163, u 164, u 165, u 166, u 167, u 168, u 169, u 170, u 171, u 172, u 173, u 174, u 175, u 176, u 177, u 178, u 179, u 180, u 181, u 182, u 183, u 184, u 185, u 186, u 187, u 188, u 189, u 190, u 191, u 192, u 193, u 194, u 195, u 196, u 197, u 198, u 199, u 200, u 201, u 202, u 203, u 204, u 205, u 206, u 207, u 208, u 209, u 210, u 211, u 212, u 213, u 214, u 215, u 216, u 217, u 218, u 219, u 220, u 221, u 222, u 223, u 224, u 225, u 226, u 227, u 228, u 229, u 230, u 231, u 232, u 233, u 234, u 235, u 236, u 237, u 238, u 239, u 240, u 241, u 242, u 243, u 244, u 245, u 246, u 247, u 248, u 249, u 250, u 251, u 252, u 253], []⟩ := by
  obtain ⟨t, d⟩ := a
  obtain ⟨rfl, hs, rfl, rfl, rfl, rfl⟩ := h
  exact ⟨fun i => t.getD i undef, congrArg (Act.mk · []) (lit254 t hs)⟩

structure FX (a : Act) (x0 x6 x7 x8 x9 : Value) : Prop where
  defs : a.defers = []
  size : a.tmps.size = 254
  s0 : a.tmps.getD 0 undef = x0
  s6 : a.tmps.getD 6 undef = x6
  s7 : a.tmps.getD 7 undef = x7
  s8 : a.tmps.getD 8 undef = x8
  s9 : a.tmps.getD 9 undef = x9

set_option maxRecDepth 100000 in
theorem FX.lit {a : Act} {x0 x6 x7 x8 x9 : Value} (h : FX a x0 x6 x7 x8 x9) : ∃ u : Nat → Value, a = ⟨#[x0, u 1, u 2, u 3, u 4, u 5, x6, x7, x8, x9, u 10, u 11, u 12, u 13, u 14, u 15, u 16, u 17, u 18, u 19, u 20, u 21, u 22, u 23, u 24, u 25, u 26, u 27, u 28, u 29, u 30, u 31, u 32, u 33, u 34, u 35, u 36, u 37, u 38, u 39, u 40, u 41, u 42, u 43, u 44, u 45, u 46, u 47, u 48, u 49, u 50, u 51, u 52, u 53, u 54, u 55, u 56, u 57, u 58, u 59, u 60, u 61, u 62, u 63, u 64, u 65, u 66, u 67, u 68, u 69, u 70, u 71, u 72, u 73, u 74, u 75, u 76, u 77, u 78, u 79, u 80, u 81, u 82, u 83, u 84, u 85, u 86, u 87, u 88, u 89, u 90, u 91, u 92, u 93, u 94, u 95, u 96, u 97, u 98, u 99, u 100, u 101, u 102, u 103, u 104, u 105, u 106, u 107, u 108, u 109, u 110, u 111, u 112, u 113, u 114, u 115, u 116, u 117, u 118, u 119, u 120, u 121, u 122, u 123, u 124, u 125, u 126, u 127, u 128, u 129, u 130, u 131, u 132, u 133, u 134, u 135, u 136, u 137, u 138, u 139, u 140, u 141, u 142, u 143, u 144, u 145, u 146, u 147, u 148, u 149, u 150, u 151, u 152, u 153, u 154, u 155, u 156, u 157, u 158, u 159, u 160, u 161, u 162, u 163, u 164, u 165, u 166, u 167, u 168, u 169, u 170, u 171, u 172, u 173, u 174, u 175, u 176, u 177, u 178, u 179, u 180, u 181, u 182, u 183, u 184, u 185, u 186, u 187, u 188, u 189, u 190, u 191, u 192, u 193, u 194, u 195, u 196, u 197, u 198, u 199, u 200, u 201, u 202, u 203, u 204, u 205, u 206, u 207, u 208, u 209, u 210, u 211, u 212, u 213, u 214, u 215, u 216, u 217, u 218, u 219, u 220, u 221, u 222, u 223, u 224, u 225, u 226, u 227, u 228, u 229, u 230, u 231, u 232, u 233, u 234, u 235, u 236, u 237, u 238, u 239, u 240, u 241, u 242, u 243, u 244, u 245, u 246, u 247, u 248, u 249, u 250, u 251, u 252, u 253], []⟩ := by
  obtain ⟨t, d⟩ := a
  obtain ⟨rfl, hs, rfl, rfl, rfl, rfl, rfl⟩ := h
  exact ⟨fun i => t.getD i undef, congrArg (Act.mk · []) (lit254 t hs)⟩

structure FB (a : Act) (x0 x6 x7 x8 x15 x16 x17 x18 x19 : Value) : Prop where
  defs : a.defers = []
  size : a.tmps.size = 254
  s0 : a.tmps.getD 0 undef = x0
  s6 : a.tmps.getD 6 undef = x6
  s7 : a.tmps.getD 7 undef = x7
  s8 : a.tmps.getD 8 undef = x8
  s15 : a.tmps.getD 15 undef = x15
  s16 : a.tmps.getD 16 undef = x16
  s17 : a.tmps.getD 17 undef = x17
  s18 : a.tmps.getD 18 undef = x18
  s19 : a.tmps.getD 19 undef = x19

set_option maxRecDepth 100000 in
theorem FB.lit {a : Act} {x0 x6 x7 x8 x15 x16 x17 x18 x19 : Value} (h : FB a x0 x6 x7 x8 x15 x16 x17 x18 x19) : ∃ u : Nat → Value, a = ⟨#[x0, u 1, u 2, u 3, u 4, u 5, x6, x7, x8, u 9, u 10, u 11, u 12, u 13, u 14, x15, x16, x17, x18, x19, u 20, u 21, u 22, u 23, u 24, u 25, u 26, u 27, u 28, u 29, u 30, u 31, u 32, u 33, u 34, u 35, u 36, u 37, u 38, u 39, u 40, u 41, u 42, u 43, u 44, u 45, u 46, u 47, u 48, u 49, u 50, u 51, u 52, u 53, u 54, u 55, u 56, u 57, u 58, u 59, u 60, u 61, u 62, u 63, u 64, u 65, u 66, u 67, u 68, u 69, u 70, u 71, u 72, u 73, u 74, u 75, u 76, u 77, u 78, u 79, u 80, u 81, u 82, u 83, u 84, u 85, u 86, u 87, u 88, u 89, u 90, u 91, u 92, u 93, u 94, u 95, u 96, u 97, u 98, u 99, u 100, u 101, u 102, u 103, u 104, u 105, u 106, u 107, u 108, u 109, u 110, u 111, u 112, u 113, u 114, u 115, u 116, u 117, u 118, u 119, u 120, u 121, u 122, u 123, u 124, u 125, u 126, u 127, u 128, u 129, u 130, u 131, u 132, u 133, u 134, u 135, u 136, u 137, u 138, u 139, u 140, u 141, u 142, u 143, u 144, u 145, u 146, u 147, u 148, u 149, u 150, u 151, u 152, u 153, u 154, u 155, u 156, u 157, u 158, u 159, u 160, u 161, u 162, u 163, u 164, u 165, u 166, u 167, u 168, u 169, u 170, u 171, u 172, u 173, u 174, u 175, u 176, u 177, u 178, u 179, u 180, u 181, u 182, u 183, u 184, u 185, u 186, u 187, u 188, u 189, u 190, u 191, u 192, u 193, u 194, u 195, u 196, u 197, u 198, u 199, u 200, u 201, u 202, u 203, u 204, u 205, u 206, u 207, u 208, u 209, u 210, u 211, u 212, u 213, u 214, u 215, u 216, u 217, u 218, u 219, u 220, u 221, u 222, u 223, u 224, u 225, u 226, u 227, u 228, u 229, u 230, u 231, u 232, u 233, u 234, u 235, u 236, u 237, u 238, u 239, u 240, u 241, u 242, u 243, u 244, u 245, u 246, u 247, u 248, u 249, u 250, u 251, u 252, u 253], []⟩ := by
  obtain ⟨t, d⟩ := a
  obtain ⟨rfl, hs, rfl, rfl, rfl, rfl, rfl, rfl, rfl, rfl, rfl⟩ := h
  exact ⟨fun i => t.getD i undef, congrArg (Act.mk · []) (lit254 t hs)⟩

theorem Dat.below {w w' : World} {ao : Option Addr} {zs : List Int} (h : Dat w ao zs) (hb : Below w.heap.size w w') : Dat w' ao zs := by
  rcases h with h | ⟨g, e, h⟩
  · exact Or.inl h
  · exact Or.inr ⟨g, e, fun j hj => (hb.cell (World.block_lt_of_cell? w _ (h j hj))).trans (h j hj)⟩

theorem num_eq {k : IntKind} {a b : Int} (h : a = b) : Value.int k a = .int k b := by rw [h]

/-- What a reading of a head at place p has brought. -/
def HdSt (zs : List Int) (p : Nat) (m a : Int) (i : Bool) (o : Int) (gd : Bool) : Prop :=
  (gd = true ∧ ∃ o' : Nat, o = o' ∧ headF zs p = some (m, a, i, o')) ∨ (gd = false ∧ headF zs p = none ∧ m = 0 ∧ a = 0 ∧ i = false ∧ o = p)

theorem rh_st (w : World) (ao : Option Addr) (zs : List Int) (n c p : Nat) (hl : n = zs.length) (hZ : Byt zs) (hn : n ≤ 1099511627776) (hs : Dat w ao zs) :
    Calls Try.prog 27 #[.slice ao n c, .int .i64 p] w fun e w' => (∃ m a i o gd, e = .returned (.tuple #[.int .u8 m, .int .u64 a, .bool i, .int .i64 o, .bool gd]) ∧ HdSt zs p m a i o gd) ∧ w = w' := by
  subst hl
  cases hF : headF zs p with
  | none =>
    refine (rh_none w ao zs c p hZ hn hs hF).mono ?_
    rintro e w' ⟨he, hw⟩
    exact ⟨⟨0, 0, false, p, false, he, Or.inr ⟨rfl, hF, rfl, rfl, rfl, rfl⟩⟩, hw.symm⟩
  | some q =>
    obtain ⟨m, a, i, o⟩ := q
    refine (rh_some w ao zs c p m a i o hZ hn hs hF).mono ?_
    rintro e w' ⟨he, hw⟩
    exact ⟨⟨m, a, i, o, true, he, Or.inl ⟨rfl, o, rfl, hF⟩⟩, hw.symm⟩

def FrOk (x : Fr) : Prop := (x.1 = 1 ∨ x.1 = 2 ∨ x.1 = 3 ∨ x.1 = 4 ∨ x.1 = 5) ∧ 0 ≤ x.2.1 ∧ x.2.1 ≤ 18446744073709551615 ∧ 0 ≤ x.2.2.2 ∧ x.2.2.2 ≤ 7

/-! ### What holds where -/
/-- What is fixed in a call: the world at its start, the data, the answer R. -/
structure Cx where
  w : World
  ao : Option Addr
  zs : List Int
  n : Nat
  c : Nat
  off : Nat
  R : Option Nat
structure CxOk (x : Cx) : Prop where
  len : x.n = x.zs.length
  byt : Byt x.zs
  small : x.n ≤ 1048576
  dat : Dat x.w x.ao x.zs
  ans : x.R = itemF x.zs x.off
  off : x.off ≤ x.n

/-- At a round's head, gk: a bound on the rounds to come. -/
def MI (x : Cx) (gk : Nat) (a : Act) (wr : World) : Prop :=
  ∃ (p : Nat) (S : List Fr) (b : Bool) (v : Value), FY a (.slice x.ao x.n x.c) (.int .i64 p) v (.bool b) ∧ p ≤ x.n ∧ S.length ≤ p ∧ Stk wr x.w.heap.size v S ∧ Below x.w.heap.size x.w wr ∧ (∀ y ∈ S, FrOk y) ∧
    ((b = false ∧ S = [] ∧ p = x.off ∧ gk = 2 * (x.n - p) + 2) ∨ (b = true ∧ denF x.zs S p = x.R ∧ gk = 2 * (x.n - p) + S.length + 1))
def Cont (x : Cx) (gk : Nat) (a : Act) (wr : World) : Prop := ∃ k, k < gk ∧ MI x k a wr
/-- In the middle of a round. -/
def Mid (x : Cx) (gk : Nat) (a : Act) (wr : World) : Prop :=
  ∃ (p : Nat) (S : List Fr) (v : Value), FY a (.slice x.ao x.n x.c) (.int .i64 p) v (.bool true) ∧ p ≤ x.n ∧ S.length ≤ p ∧ Stk wr x.w.heap.size v S ∧ Below x.w.heap.size x.w wr ∧ (∀ y ∈ S, FrOk y) ∧
    thenF' x.zs S (itemF x.zs p) = x.R ∧ 2 * (x.n - p) + S.length + 1 ≤ gk
/-- Past the tags. -/
def Past (x : Cx) (gk : Nat) (a : Act) (wr : World) : Prop :=
  ∃ (p0 p : Nat) (S : List Fr) (v : Value) (m ar : Int) (i : Bool) (o : Int) (gd : Bool), FB a (.slice x.ao x.n x.c) (.int .i64 p) v (.bool true) (.int .u8 m) (.int .u64 ar) (.bool i) (.int .i64 o) (.bool gd) ∧ p0 ≤ p ∧ p ≤ x.n ∧ S.length ≤ p0 ∧ Stk wr x.w.heap.size v S ∧ Below x.w.heap.size x.w wr ∧ (∀ y ∈ S, FrOk y) ∧
    HdSt x.zs p m ar i o gd ∧ ¬ (gd = true ∧ m = 6) ∧ thenF' x.zs S (itemF x.zs p) = x.R ∧ 2 * (x.n - p0) + S.length + 1 ≤ gk
/-- At a return. -/
def Ret (x : Cx) (a : Act) (wr : World) : Prop :=
  a.defers = [] ∧ ∃ y ok, a.tmps.getD 4 undef = .int .i64 y ∧ a.tmps.getD 5 undef = .bool ok ∧ ok = x.R.isSome ∧ (∀ o, x.R = some o → y = (o : Int)) ∧ Below x.w.heap.size x.w wr

end Go.Proofs.Qxb6000697a

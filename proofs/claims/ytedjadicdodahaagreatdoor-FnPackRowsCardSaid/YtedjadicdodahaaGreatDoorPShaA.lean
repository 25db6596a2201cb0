/- sha256: the rounds of a block, as numbers. (printed by gen_psha.py) -/
import Derived.BigRegion
import Derived.StillTailTactics
import Derived.Deep.CutRange
import Derived.Deep.CutBlock
import Derived.Deep.LoopGhost
import Derived.Great.Walk
import Derived.Test.YtedjadicdodahaaGreatDoorQOwn
namespace Go.Proofs.YtedjadicdodahaaGreatDoor
open Go.RowKit

def rotl (s : Nat) (x : Int) : Int := bits BinOp.or IntKind.u32 (x * 2 ^ s % 4294967296) (x / 2 ^ (32 - s))
theorem rotl_any (x k : Int) (s : Nat) (w : World) (hk : bits BinOp.and IntKind.u64 (IntKind.u64.wrap k) 31 = (s : Int)) (h1 : 1 ≤ s) (h2 : s ≤ 31) : Calls Tryz.prog 173 #[.int .u32 x, .int .i64 k] w (fun e w' => e = .returned (.int .u32 (rotl s x)) ∧ w' = w) := by
  have i1 : (0 : Int) ≤ (s : Int) := by omega
  have i2 : (s : Int) ≤ 31 := by omega
  go_enter Tryz.func173, Tryz.ntmps173
  go_wp2_with fail
  go_ret
  exact ⟨rfl, rfl⟩
/-- To the left by k, which may be negative. -/
def rotN (k : Int) : Nat := (bits BinOp.and IntKind.u64 (IntKind.u64.wrap k) 31).toNat
def rotOk (k : Int) : Bool := decide (bits BinOp.and IntKind.u64 (IntKind.u64.wrap k) 31 = (rotN k : Int)) && decide (1 ≤ rotN k) && decide (rotN k ≤ 31)
def rot (k x : Int) : Int := rotl (rotN k) x
theorem rot_any (x k : Int) (w : World) (h : rotOk k = true) : Calls Tryz.prog 173 #[.int .u32 x, .int .i64 k] w (fun e w' => e = .returned (.int .u32 (rot k x)) ∧ w' = w) := by
  simp only [rotOk, Bool.and_eq_true, decide_eq_true_eq] at h
  exact rotl_any x k (rotN k) w h.1.1 h.1.2 h.2
theorem rot_to (x k : Int) (w : World) (h : rotOk k = true) : Calls Tryz.prog 173 #[.int .u32 x, .int .i64 k] w (fun e w' => e = .returned (.int .u32 (rot k x)) ∧ w = w') := (rot_any x k w h).mono fun _ _ ⟨h1, h2⟩ => ⟨h1, h2.symm⟩

structure V8 where
  (a b c d e f g h : Int)
abbrev V8.cells (v : V8) : List Value := [.int .u32 v.a, .int .u32 v.b, .int .u32 v.c, .int .u32 v.d, .int .u32 v.e, .int .u32 v.f, .int .u32 v.g, .int .u32 v.h]
/-- Four bytes, the highest first. -/
def be32 (z0 z1 z2 z3 : Int) : Int := bits BinOp.or IntKind.u32 (bits BinOp.or IntKind.u32 (bits BinOp.or IntKind.u32 (z0 % 4294967296 * 16777216 % 4294967296) (z1 % 4294967296 * 65536 % 4294967296)) (z2 % 4294967296 * 256 % 4294967296)) (z3 % 4294967296)
def shT1 (Kk y : Int) (v : V8) : Int := v.h + bits BinOp.xor IntKind.u32 (bits BinOp.xor IntKind.u32 (rot (-6) v.e) (rot (-11) v.e)) (rot (-25) v.e) + bits BinOp.xor IntKind.u32 (bits BinOp.and IntKind.u32 v.e v.f) (bits BinOp.and IntKind.u32 (bits BinOp.xor IntKind.u32 IntKind.u32.max v.e) v.g) + Kk + y
def shT2 (v : V8) : Int := bits BinOp.xor IntKind.u32 (bits BinOp.xor IntKind.u32 (rot (-2) v.a) (rot (-13) v.a)) (rot (-22) v.a) + bits BinOp.xor IntKind.u32 (bits BinOp.xor IntKind.u32 (bits BinOp.and IntKind.u32 v.a v.b) (bits BinOp.and IntKind.u32 v.a v.c)) (bits BinOp.and IntKind.u32 v.b v.c)
def V8.next (Kk y : Int) (v : V8) : V8 := ⟨(shT1 Kk y v + shT2 v) % 4294967296, v.a, v.b, v.c, (v.d + shT1 Kk y v) % 4294967296, v.e, v.f, v.g⟩
/-- A further word out of four. -/
def shW (x2 x7 x15 x16 : Int) : Int := (((bits BinOp.xor IntKind.u32 (bits BinOp.xor IntKind.u32 (rot (-17) x2) (rot (-19) x2)) (x2 / 1024) + x7) % 4294967296 + bits BinOp.xor IntKind.u32 (bits BinOp.xor IntKind.u32 (rot (-7) x15) (rot (-18) x15)) (x15 / 8)) % 4294967296 + x16) % 4294967296
def wNew (ch X : List Int) (k : Nat) : Int := if k < 16 then be32 (ch.getD (k * 4) 0) (ch.getD (k * 4 + 1) 0) (ch.getD (k * 4 + 2) 0) (ch.getD (k * 4 + 3) 0) else shW (X.getD (k - 2) 0) (X.getD (k - 7) 0) (X.getD (k - 15) 0) (X.getD (k - 16) 0)
def rstep (K ch : List Int) (k : Nat) (s : V8 × List Int) : V8 × List Int := (s.1.next (K.getD k 0) (wNew ch s.2 k), s.2.set k (wNew ch s.2 k))
/-- The first k rounds over 64 bytes. -/
def rounds (K ch : List Int) (s : V8 × List Int) : Nat → V8 × List Int
  | 0 => s
  | k + 1 => rstep K ch k (rounds K ch s k)
theorem rounds_len (K ch : List Int) (s : V8 × List Int) : ∀ k, (rounds K ch s k).2.length = s.2.length
  | 0 => rfl
  | k + 1 => by
    show ((rounds K ch s k).2.set k _).length = _
    rw [List.length_set, rounds_len K ch s k]
theorem map_set_arr (X : List Int) (k : Nat) (y : Int) : ((X.set k y).map (Value.int .u32)).toArray = ((X.map (Value.int .u32)).toArray).setIfInBounds k (.int .u32 y) := by
  rw [← Array.toList_inj, Array.toList_setIfInBounds]
  simp [List.map_set]
abbrev w0Cells : Array Value := #[.int .u32 0, .int .u32 0, .int .u32 0, .int .u32 0, .int .u32 0, .int .u32 0, .int .u32 0, .int .u32 0, .int .u32 0, .int .u32 0, .int .u32 0, .int .u32 0, .int .u32 0, .int .u32 0, .int .u32 0, .int .u32 0, .int .u32 0, .int .u32 0, .int .u32 0, .int .u32 0, .int .u32 0, .int .u32 0, .int .u32 0, .int .u32 0, .int .u32 0, .int .u32 0, .int .u32 0, .int .u32 0, .int .u32 0, .int .u32 0, .int .u32 0, .int .u32 0, .int .u32 0, .int .u32 0, .int .u32 0, .int .u32 0, .int .u32 0, .int .u32 0, .int .u32 0, .int .u32 0, .int .u32 0, .int .u32 0, .int .u32 0, .int .u32 0, .int .u32 0, .int .u32 0, .int .u32 0, .int .u32 0, .int .u32 0, .int .u32 0, .int .u32 0, .int .u32 0, .int .u32 0, .int .u32 0, .int .u32 0, .int .u32 0, .int .u32 0, .int .u32 0, .int .u32 0, .int .u32 0, .int .u32 0, .int .u32 0, .int .u32 0, .int .u32 0]
def firstLoop : Code → Option Code
  | .loop c => some c
  | .seq a b => match firstLoop a with
    | some c => some c
    | none => firstLoop b
  | .block _ c => firstLoop c
  | .scope c => firstLoop c
  | .cond _ a b => match firstLoop a with
    | some c => some c
    | none => firstLoop b
  | _ => none
noncomputable def shaOuter : Code := (Tryz.f110.body.bind firstLoop).getD .skip
noncomputable def shaInner : Code := (firstLoop shaOuter).getD .skip

/-- What holds at each round's head: k rounds have been gone; S tells what they leave. -/
structure ShaR (S : Nat → V8 × List Int) (wb : Nat) (w1 : World) (k : Nat) (w' : World) : Prop where
  le : k ≤ 64
  blk : Blk w' wb 250 ((S k).2.map (Value.int .u32)).toArray
  fr : Fr [wb] w1 w'
set_option maxRecDepth 1000000 in
def ShaI (S : Nat → V8 × List Int) (wb : Nat) (w1 : World) (pb pq pn pc : Nat) (c0 c2 c3 c5 c6 c7 c8 c9 c10 c11 c12 c29 c30 c31 c32 c33 c34 c35 c36 c37 c38 c39 c40 c41 c42 c43 c44 c45 c46 c47 c48 c49 c50 c51 c52 c53 c54 c55 c56 c57 c58 c59 c60 c61 c62 c63 c64 c65 c66 c67 c68 c69 c70 c71 c72 c73 c74 c75 c76 c77 c78 c79 c217 c218 c219 c220 c221 c222 c223 c224 c225 c226 c227 c228 c229 c230 c231 c232 c233 c234 c235 c236 c237 c238 c239 c240 c241 c242 c243 c244 c245 c246 c247 c248 c249 c250 c251 c252 c253 c254 c255 c256 c257 c258 c259 c260 c261 c262 c263 c264 c265 c266 c267 c268 c269 c270 c271 c272 c273 c274 c275 c276 c277 c278 c279 c280 c281 c282 : Value) (a : Act) (w' : World) : Prop := ∃ k : Nat, ShaR S wb w1 k w' ∧ ∃ u21 u22 u23 u24 u25 u26 u27 u28 u81 u82 u83 u84 u85 u86 u87 u88 u89 u90 u91 u92 u93 u94 u95 u96 u97 u98 u99 u100 u101 u102 u103 u104 u105 u106 u107 u108 u109 u110 u111 u112 u113 u114 u115 u116 u117 u118 u119 u120 u121 u122 u123 u124 u125 u126 u127 u128 u129 u130 u131 u132 u133 u134 u135 u136 u137 u138 u139 u140 u141 u142 u143 u144 u145 u146 u147 u148 u149 u150 u151 u152 u153 u154 u155 u156 u157 u158 u159 u160 u161 u162 u163 u164 u165 u166 u167 u168 u169 u170 u171 u172 u173 u174 u175 u176 u177 u178 u179 u180 u181 u182 u183 u184 u185 u186 u187 u188 u189 u190 u191 u192 u193 u194 u195 u196 u197 u198 u199 u200 u201 u202 u203 u204 u205 u206 u207 u208 u209 u210 u211 u212 u213 u214 u215 u216 : Value, a = ⟨#[c0, .slice (some ⟨pb, pq, none⟩) pn pc, c2, c3, .pointer (some ⟨wb, 0, none⟩), c5, c6, c7, c8, c9, c10, c11, c12, .int .u32 (S k).1.a, .int .u32 (S k).1.b, .int .u32 (S k).1.c, .int .u32 (S k).1.d, .int .u32 (S k).1.e, .int .u32 (S k).1.f, .int .u32 (S k).1.g, .int .u32 (S k).1.h, u21, u22, u23, u24, u25, u26, u27, u28, c29, c30, c31, c32, c33, c34, c35, c36, c37, c38, c39, c40, c41, c42, c43, c44, c45, c46, c47, c48, c49, c50, c51, c52, c53, c54, c55, c56, c57, c58, c59, c60, c61, c62, c63, c64, c65, c66, c67, c68, c69, c70, c71, c72, c73, c74, c75, c76, c77, c78, c79, .int .i64 (k : Int), u81, u82, u83, u84, u85, u86, u87, u88, u89, u90, u91, u92, u93, u94, u95, u96, u97, u98, u99, u100, u101, u102, u103, u104, u105, u106, u107, u108, u109, u110, u111, u112, u113, u114, u115, u116, u117, u118, u119, u120, u121, u122, u123, u124, u125, u126, u127, u128, u129, u130, u131, u132, u133, u134, u135, u136, u137, u138, u139, u140, u141, u142, u143, u144, u145, u146, u147, u148, u149, u150, u151, u152, u153, u154, u155, u156, u157, u158, u159, u160, u161, u162, u163, u164, u165, u166, u167, u168, u169, u170, u171, u172, u173, u174, u175, u176, u177, u178, u179, u180, u181, u182, u183, u184, u185, u186, u187, u188, u189, u190, u191, u192, u193, u194, u195, u196, u197, u198, u199, u200, u201, u202, u203, u204, u205, u206, u207, u208, u209, u210, u211, u212, u213, u214, u215, u216, c217, c218, c219, c220, c221, c222, c223, c224, c225, c226, c227, c228, c229, c230, c231, c232, c233, c234, c235, c236, c237, c238, c239, c240, c241, c242, c243, c244, c245, c246, c247, c248, c249, c250, c251, c252, c253, c254, c255, c256, c257, c258, c259, c260, c261, c262, c263, c264, c265, c266, c267, c268, c269, c270, c271, c272, c273, c274, c275, c276, c277, c278, c279, c280, c281, c282], []⟩
def ShaMu (a : Act) (_ : World) : Nat := 64 - (intOf (a.tmps.getD 80 undef)).toNat
end Go.Proofs.YtedjadicdodahaaGreatDoor

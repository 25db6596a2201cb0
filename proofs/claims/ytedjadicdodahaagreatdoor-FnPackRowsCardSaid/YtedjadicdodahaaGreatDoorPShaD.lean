/- sha256: the rounds of a block: one round, from the 17th on. (printed by gen_psha.py) -/
import Derived.Test.YtedjadicdodahaaGreatDoorPShaA
namespace Go.Proofs.YtedjadicdodahaaGreatDoor
open Go.RowKit

set_option maxRecDepth 1000000 in
set_option maxHeartbeats 4000000 in
theorem sha_case2 (S : Nat → V8 × List Int) (wb : Nat) (w1 : World) (pb pq pn pc k : Nat) (v : V8) (X : List Int) (wr : World) (Q0 : Exit → Act → World → Prop) (c0 c2 c3 c5 c6 c7 c8 c9 c10 c11 c12 c29 c30 c31 c32 c33 c34 c35 c36 c37 c38 c39 c40 c41 c42 c43 c44 c45 c46 c47 c48 c49 c50 c51 c52 c53 c54 c55 c56 c57 c58 c59 c60 c61 c62 c63 c64 c65 c66 c67 c68 c69 c70 c71 c72 c73 c74 c75 c76 c77 c78 c79 c217 c218 c219 c220 c221 c222 c223 c224 c225 c226 c227 c228 c229 c230 c231 c232 c233 c234 c235 c236 c237 c238 c239 c240 c241 c242 c243 c244 c245 c246 c247 c248 c249 c250 c251 c252 c253 c254 c255 c256 c257 c258 c259 c260 c261 c262 c263 c264 c265 c266 c267 c268 c269 c270 c271 c272 c273 c274 c275 c276 c277 c278 c279 c280 c281 c282 u21 u22 u23 u24 u25 u26 u27 u28 u81 u82 u83 u84 u85 u86 u87 u88 u89 u90 u91 u92 u93 u94 u95 u96 u97 u98 u99 u100 u101 u102 u103 u104 u105 u106 u107 u108 u109 u110 u111 u112 u113 u114 u115 u116 u117 u118 u119 u120 u121 u122 u123 u124 u125 u126 u127 u128 u129 u130 u131 u132 u133 u134 u135 u136 u137 u138 u139 u140 u141 u142 u143 u144 u145 u146 u147 u148 u149 u150 u151 u152 u153 u154 u155 u156 u157 u158 u159 u160 u161 u162 u163 u164 u165 u166 u167 u168 u169 u170 u171 u172 u173 u174 u175 u176 u177 u178 u179 u180 u181 u182 u183 u184 u185 u186 u187 u188 u189 u190 u191 u192 u193 u194 u195 u196 u197 u198 u199 u200 u201 u202 u203 u204 u205 u206 u207 u208 u209 u210 u211 u212 u213 u214 u215 u216 : Value)
    (x2 x7 x15 x16 Kk : Int) (hk : 16 ≤ k) (hk2 : k < 64) (hS : S (k + 1) = (v.next Kk (shW x2 x7 x15 x16), X.set k (shW x2 x7 x15 x16)))
    (e2 : wr.cell? ⟨wb, k - 2, none⟩ = some (.int .u32 x2)) (e7 : wr.cell? ⟨wb, k - 7, none⟩ = some (.int .u32 x7)) (e15 : wr.cell? ⟨wb, k - 15, none⟩ = some (.int .u32 x15)) (e16 : wr.cell? ⟨wb, k - 16, none⟩ = some (.int .u32 x16))
    (hX : X.length = 64) (hb : Blk wr wb 250 (X.map (Value.int .u32)).toArray) (hkc : ∀ W, Fr [wb] w1 W → W.cell? ⟨10, k, none⟩ = some (.int .u32 Kk)) (hfr : Fr [wb] w1 wr) :
    Code.wp Tryz.prog shaInner (Exit.then (fun a' w'' => ShaI S wb w1 pb pq pn pc c0 c2 c3 c5 c6 c7 c8 c9 c10 c11 c12 c29 c30 c31 c32 c33 c34 c35 c36 c37 c38 c39 c40 c41 c42 c43 c44 c45 c46 c47 c48 c49 c50 c51 c52 c53 c54 c55 c56 c57 c58 c59 c60 c61 c62 c63 c64 c65 c66 c67 c68 c69 c70 c71 c72 c73 c74 c75 c76 c77 c78 c79 c217 c218 c219 c220 c221 c222 c223 c224 c225 c226 c227 c228 c229 c230 c231 c232 c233 c234 c235 c236 c237 c238 c239 c240 c241 c242 c243 c244 c245 c246 c247 c248 c249 c250 c251 c252 c253 c254 c255 c256 c257 c258 c259 c260 c261 c262 c263 c264 c265 c266 c267 c268 c269 c270 c271 c272 c273 c274 c275 c276 c277 c278 c279 c280 c281 c282 a' w'' ∧ ShaMu a' w'' < ShaMu ⟨#[c0, .slice (some ⟨pb, pq, none⟩) pn pc, c2, c3, .pointer (some ⟨wb, 0, none⟩), c5, c6, c7, c8, c9, c10, c11, c12, .int .u32 v.a, .int .u32 v.b, .int .u32 v.c, .int .u32 v.d, .int .u32 v.e, .int .u32 v.f, .int .u32 v.g, .int .u32 v.h, u21, u22, u23, u24, u25, u26, u27, u28, c29, c30, c31, c32, c33, c34, c35, c36, c37, c38, c39, c40, c41, c42, c43, c44, c45, c46, c47, c48, c49, c50, c51, c52, c53, c54, c55, c56, c57, c58, c59, c60, c61, c62, c63, c64, c65, c66, c67, c68, c69, c70, c71, c72, c73, c74, c75, c76, c77, c78, c79, .int .i64 (k : Int), u81, u82, u83, u84, u85, u86, u87, u88, u89, u90, u91, u92, u93, u94, u95, u96, u97, u98, u99, u100, u101, u102, u103, u104, u105, u106, u107, u108, u109, u110, u111, u112, u113, u114, u115, u116, u117, u118, u119, u120, u121, u122, u123, u124, u125, u126, u127, u128, u129, u130, u131, u132, u133, u134, u135, u136, u137, u138, u139, u140, u141, u142, u143, u144, u145, u146, u147, u148, u149, u150, u151, u152, u153, u154, u155, u156, u157, u158, u159, u160, u161, u162, u163, u164, u165, u166, u167, u168, u169, u170, u171, u172, u173, u174, u175, u176, u177, u178, u179, u180, u181, u182, u183, u184, u185, u186, u187, u188, u189, u190, u191, u192, u193, u194, u195, u196, u197, u198, u199, u200, u201, u202, u203, u204, u205, u206, u207, u208, u209, u210, u211, u212, u213, u214, u215, u216, c217, c218, c219, c220, c221, c222, c223, c224, c225, c226, c227, c228, c229, c230, c231, c232, c233, c234, c235, c236, c237, c238, c239, c240, c241, c242, c243, c244, c245, c246, c247, c248, c249, c250, c251, c252, c253, c254, c255, c256, c257, c258, c259, c260, c261, c262, c263, c264, c265, c266, c267, c268, c269, c270, c271, c272, c273, c274, c275, c276, c277, c278, c279, c280, c281, c282], []⟩ wr) Q0) ⟨#[c0, .slice (some ⟨pb, pq, none⟩) pn pc, c2, c3, .pointer (some ⟨wb, 0, none⟩), c5, c6, c7, c8, c9, c10, c11, c12, .int .u32 v.a, .int .u32 v.b, .int .u32 v.c, .int .u32 v.d, .int .u32 v.e, .int .u32 v.f, .int .u32 v.g, .int .u32 v.h, u21, u22, u23, u24, u25, u26, u27, u28, c29, c30, c31, c32, c33, c34, c35, c36, c37, c38, c39, c40, c41, c42, c43, c44, c45, c46, c47, c48, c49, c50, c51, c52, c53, c54, c55, c56, c57, c58, c59, c60, c61, c62, c63, c64, c65, c66, c67, c68, c69, c70, c71, c72, c73, c74, c75, c76, c77, c78, c79, .int .i64 (k : Int), u81, u82, u83, u84, u85, u86, u87, u88, u89, u90, u91, u92, u93, u94, u95, u96, u97, u98, u99, u100, u101, u102, u103, u104, u105, u106, u107, u108, u109, u110, u111, u112, u113, u114, u115, u116, u117, u118, u119, u120, u121, u122, u123, u124, u125, u126, u127, u128, u129, u130, u131, u132, u133, u134, u135, u136, u137, u138, u139, u140, u141, u142, u143, u144, u145, u146, u147, u148, u149, u150, u151, u152, u153, u154, u155, u156, u157, u158, u159, u160, u161, u162, u163, u164, u165, u166, u167, u168, u169, u170, u171, u172, u173, u174, u175, u176, u177, u178, u179, u180, u181, u182, u183, u184, u185, u186, u187, u188, u189, u190, u191, u192, u193, u194, u195, u196, u197, u198, u199, u200, u201, u202, u203, u204, u205, u206, u207, u208, u209, u210, u211, u212, u213, u214, u215, u216, c217, c218, c219, c220, c221, c222, c223, c224, c225, c226, c227, c228, c229, c230, c231, c232, c233, c234, c235, c236, c237, c238, c239, c240, c241, c242, c243, c244, c245, c246, c247, c248, c249, c250, c251, c252, c253, c254, c255, c256, c257, c258, c259, c260, c261, c262, c263, c264, c265, c266, c267, c268, c269, c270, c271, c272, c273, c274, c275, c276, c277, c278, c279, c280, c281, c282], []⟩ wr := by
  conv => arg 2; whnf
  have HB := Lib.hid hb
  have HX := Lib.hid hX
  have HKC := Lib.hid hkc
  have HFR := Lib.hid hfr
  have HS := Lib.hid hS
  have i0 : (16 : Int) ≤ (k : Int) := by omega
  have i1 : (k : Int) < 64 := by omega
  clear hb hX hkc hfr hS
  go_wp2_with (go_at_call 173; refine (rot_to _ _ _ (by decide)).mono ?_; rintro e w' ⟨rfl, rfl⟩)
  have t7 : ((k : Int) - 7).toNat = k - 7 := by omega
  have q7 : IntKind.i64.wrap ((k : Int) - 7) = (k : Int) - 7 := by rw [IntKind.wrap_i64]; omega
  have j7 : (0 : Int) ≤ (k : Int) - 7 := by omega
  have l7 : (k : Int) - 7 < 64 := by omega
  have m7 : (7 : Int) ≤ (k : Int) := by omega
  have n7 : (k : Int) < 64 + 7 := by omega
  have t16 : ((k : Int) - 16).toNat = k - 16 := by omega
  have q16 : IntKind.i64.wrap ((k : Int) - 16) = (k : Int) - 16 := by rw [IntKind.wrap_i64]; omega
  have j16 : (0 : Int) ≤ (k : Int) - 16 := by omega
  have l16 : (k : Int) - 16 < 64 := by omega
  have m16 : (16 : Int) ≤ (k : Int) := by omega
  have n16 : (k : Int) < 64 + 16 := by omega
  go_still_tail 15, (by kernel_rfl)
  change wpList _ _ _ _ _ wr.drew
  have HBD := Lib.hid HB.out.drew
  have HF2 := Lib.hid HFR.out.drew
  clear e2 e7 e15 e16 t7 t16 q7 q16 j7 j16 l7 l16 m7 m16 n7 n16
  generalize wr.drew = w2 at *
  have hkl : k < X.length := by rw [HX.out]; omega
  have hc : w2.cell? ⟨wb, k, none⟩ = some (.int .u32 X[k]) := by rw [HBD.out.cell]; simp [hkl]
  have hf : w2.frozen? ⟨wb, k, none⟩ = false := HBD.out.frozen k
  go_wp2_with fail
  clear hc hf
  obtain ⟨y, hy⟩ : ∃ y, y = shW x2 x7 x15 x16 := ⟨_, rfl⟩
  have HY := Lib.hid hy
  unfold shW at hy
  rw [← hy]
  clear hy
  obtain ⟨w3, hw3⟩ : ∃ w3, w3 = w2.setCell ⟨wb, k, none⟩ (.int .u32 y) := ⟨_, rfl⟩
  rw [← hw3]
  have HW3 := Lib.hid hw3
  have B3 := Lib.hid (show Blk w3 wb 250 ((X.set k y).map (Value.int .u32)).toArray from by rw [hw3, map_set_arr]; exact HBD.out.set_ k _)
  have F3 := Lib.hid (show Fr [wb] w1 w3 from by rw [hw3]; exact HF2.out.setCell (.inl (by simp)) _)
  have hwc : w3.cell? ⟨wb, k, none⟩ = some (.int .u32 y) := by rw [B3.out.cell]; simp [hkl]
  have hkc := HKC.out w3 F3.out
  clear hw3
  go_quiet ((go_at_call 173; exact Calls.quiet_of_same (rot_any _ _ _ (by decide))))
  go_wp2_with (go_at_call 173; refine (rot_to _ _ _ (by decide)).mono ?_; rintro e w' ⟨rfl, rfl⟩)
  have hS := HS.out
  rw [← HY.out] at hS
  exact ⟨⟨k + 1, ⟨by omega, by rw [hS]; exact B3.out.drewN _, F3.out.drewN _⟩, _, _, _, _, _, _, _, _, _, _, _, _, _, _, _, _, _, _, _, _, _, _, _, _, _, _, _, _, _, _, _, _, _, _, _, _, _, _, _, _, _, _, _, _, _, _, _, _, _, _, _, _, _, _, _, _, _, _, _, _, _, _, _, _, _, _, _, _, _, _, _, _, _, _, _, _, _, _, _, _, _, _, _, _, _, _, _, _, _, _, _, _, _, _, _, _, _, _, _, _, _, _, _, _, _, _, _, _, _, _, _, _, _, _, _, _, _, _, _, _, _, _, _, _, _, _, _, _, _, _, _, _, _, _, _, _, _, _, _, _, _, _, _, _, by rw [hS]; rfl⟩, by simp [ShaMu, intOf]; omega⟩
end Go.Proofs.YtedjadicdodahaaGreatDoor

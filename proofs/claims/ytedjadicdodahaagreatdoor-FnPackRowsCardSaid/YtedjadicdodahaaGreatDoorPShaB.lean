/- sha256: the rounds of a block: one round. (printed by gen_psha.py) -/
import Derived.Test.YtedjadicdodahaaGreatDoorPShaA
namespace Go.Proofs.YtedjadicdodahaaGreatDoor
open Go.RowKit

set_option maxRecDepth 1000000 in
set_option maxHeartbeats 4000000 in
theorem sha_case1 (S : Nat → V8 × List Int) (wb : Nat) (w1 : World) (pb pq pn pc k : Nat) (v : V8) (X : List Int) (wr : World) (Q0 : Exit → Act → World → Prop) (c0 c2 c3 c5 c6 c7 c8 c9 c10 c11 c12 c29 c30 c31 c32 c33 c34 c35 c36 c37 c38 c39 c40 c41 c42 c43 c44 c45 c46 c47 c48 c49 c50 c51 c52 c53 c54 c55 c56 c57 c58 c59 c60 c61 c62 c63 c64 c65 c66 c67 c68 c69 c70 c71 c72 c73 c74 c75 c76 c77 c78 c79 c217 c218 c219 c220 c221 c222 c223 c224 c225 c226 c227 c228 c229 c230 c231 c232 c233 c234 c235 c236 c237 c238 c239 c240 c241 c242 c243 c244 c245 c246 c247 c248 c249 c250 c251 c252 c253 c254 c255 c256 c257 c258 c259 c260 c261 c262 c263 c264 c265 c266 c267 c268 c269 c270 c271 c272 c273 c274 c275 c276 c277 c278 c279 c280 c281 c282 u21 u22 u23 u24 u25 u26 u27 u28 u81 u82 u83 u84 u85 u86 u87 u88 u89 u90 u91 u92 u93 u94 u95 u96 u97 u98 u99 u100 u101 u102 u103 u104 u105 u106 u107 u108 u109 u110 u111 u112 u113 u114 u115 u116 u117 u118 u119 u120 u121 u122 u123 u124 u125 u126 u127 u128 u129 u130 u131 u132 u133 u134 u135 u136 u137 u138 u139 u140 u141 u142 u143 u144 u145 u146 u147 u148 u149 u150 u151 u152 u153 u154 u155 u156 u157 u158 u159 u160 u161 u162 u163 u164 u165 u166 u167 u168 u169 u170 u171 u172 u173 u174 u175 u176 u177 u178 u179 u180 u181 u182 u183 u184 u185 u186 u187 u188 u189 u190 u191 u192 u193 u194 u195 u196 u197 u198 u199 u200 u201 u202 u203 u204 u205 u206 u207 u208 u209 u210 u211 u212 u213 u214 u215 u216 : Value)
    (z0 z1 z2 z3 Kk : Int) (hk : k < 16) (hpn : k * 4 + 4 ≤ pn) (hS : S (k + 1) = (v.next Kk (be32 z0 z1 z2 z3), X.set k (be32 z0 z1 z2 z3)))
    (e0 : wr.cell? ⟨pb, pq + k * 4, none⟩ = some (.int .u8 z0)) (e1 : wr.cell? ⟨pb, pq + (k * 4 + 1), none⟩ = some (.int .u8 z1)) (e2 : wr.cell? ⟨pb, pq + (k * 4 + 2), none⟩ = some (.int .u8 z2)) (e3 : wr.cell? ⟨pb, pq + (k * 4 + 3), none⟩ = some (.int .u8 z3))
    (hX : X.length = 64) (hb : Blk wr wb 250 (X.map (Value.int .u32)).toArray) (hkc : ∀ W, Fr [wb] w1 W → W.cell? ⟨10, k, none⟩ = some (.int .u32 Kk)) (hfr : Fr [wb] w1 wr) :
    Code.wp Tryz.prog shaInner (Exit.then (fun a' w'' => ShaI S wb w1 pb pq pn pc c0 c2 c3 c5 c6 c7 c8 c9 c10 c11 c12 c29 c30 c31 c32 c33 c34 c35 c36 c37 c38 c39 c40 c41 c42 c43 c44 c45 c46 c47 c48 c49 c50 c51 c52 c53 c54 c55 c56 c57 c58 c59 c60 c61 c62 c63 c64 c65 c66 c67 c68 c69 c70 c71 c72 c73 c74 c75 c76 c77 c78 c79 c217 c218 c219 c220 c221 c222 c223 c224 c225 c226 c227 c228 c229 c230 c231 c232 c233 c234 c235 c236 c237 c238 c239 c240 c241 c242 c243 c244 c245 c246 c247 c248 c249 c250 c251 c252 c253 c254 c255 c256 c257 c258 c259 c260 c261 c262 c263 c264 c265 c266 c267 c268 c269 c270 c271 c272 c273 c274 c275 c276 c277 c278 c279 c280 c281 c282 a' w'' ∧ ShaMu a' w'' < ShaMu ⟨#[c0, .slice (some ⟨pb, pq, none⟩) pn pc, c2, c3, .pointer (some ⟨wb, 0, none⟩), c5, c6, c7, c8, c9, c10, c11, c12, .int .u32 v.a, .int .u32 v.b, .int .u32 v.c, .int .u32 v.d, .int .u32 v.e, .int .u32 v.f, .int .u32 v.g, .int .u32 v.h, u21, u22, u23, u24, u25, u26, u27, u28, c29, c30, c31, c32, c33, c34, c35, c36, c37, c38, c39, c40, c41, c42, c43, c44, c45, c46, c47, c48, c49, c50, c51, c52, c53, c54, c55, c56, c57, c58, c59, c60, c61, c62, c63, c64, c65, c66, c67, c68, c69, c70, c71, c72, c73, c74, c75, c76, c77, c78, c79, .int .i64 (k : Int), u81, u82, u83, u84, u85, u86, u87, u88, u89, u90, u91, u92, u93, u94, u95, u96, u97, u98, u99, u100, u101, u102, u103, u104, u105, u106, u107, u108, u109, u110, u111, u112, u113, u114, u115, u116, u117, u118, u119, u120, u121, u122, u123, u124, u125, u126, u127, u128, u129, u130, u131, u132, u133, u134, u135, u136, u137, u138, u139, u140, u141, u142, u143, u144, u145, u146, u147, u148, u149, u150, u151, u152, u153, u154, u155, u156, u157, u158, u159, u160, u161, u162, u163, u164, u165, u166, u167, u168, u169, u170, u171, u172, u173, u174, u175, u176, u177, u178, u179, u180, u181, u182, u183, u184, u185, u186, u187, u188, u189, u190, u191, u192, u193, u194, u195, u196, u197, u198, u199, u200, u201, u202, u203, u204, u205, u206, u207, u208, u209, u210, u211, u212, u213, u214, u215, u216, c217, c218, c219, c220, c221, c222, c223, c224, c225, c226, c227, c228, c229, c230, c231, c232, c233, c234, c235, c236, c237, c238, c239, c240, c241, c242, c243, c244, c245, c246, c247, c248, c249, c250, c251, c252, c253, c254, c255, c256, c257, c258, c259, c260, c261, c262, c263, c264, c265, c266, c267, c268, c269, c270, c271, c272, c273, c274, c275, c276, c277, c278, c279, c280, c281, c282], []⟩ wr) Q0) ⟨#[c0, .slice (some ⟨pb, pq, none⟩) pn pc, c2, c3, .pointer (some ⟨wb, 0, none⟩), c5, c6, c7, c8, c9, c10, c11, c12, .int .u32 v.a, .int .u32 v.b, .int .u32 v.c, .int .u32 v.d, .int .u32 v.e, .int .u32 v.f, .int .u32 v.g, .int .u32 v.h, u21, u22, u23, u24, u25, u26, u27, u28, c29, c30, c31, c32, c33, c34, c35, c36, c37, c38, c39, c40, c41, c42, c43, c44, c45, c46, c47, c48, c49, c50, c51, c52, c53, c54, c55, c56, c57, c58, c59, c60, c61, c62, c63, c64, c65, c66, c67, c68, c69, c70, c71, c72, c73, c74, c75, c76, c77, c78, c79, .int .i64 (k : Int), u81, u82, u83, u84, u85, u86, u87, u88, u89, u90, u91, u92, u93, u94, u95, u96, u97, u98, u99, u100, u101, u102, u103, u104, u105, u106, u107, u108, u109, u110, u111, u112, u113, u114, u115, u116, u117, u118, u119, u120, u121, u122, u123, u124, u125, u126, u127, u128, u129, u130, u131, u132, u133, u134, u135, u136, u137, u138, u139, u140, u141, u142, u143, u144, u145, u146, u147, u148, u149, u150, u151, u152, u153, u154, u155, u156, u157, u158, u159, u160, u161, u162, u163, u164, u165, u166, u167, u168, u169, u170, u171, u172, u173, u174, u175, u176, u177, u178, u179, u180, u181, u182, u183, u184, u185, u186, u187, u188, u189, u190, u191, u192, u193, u194, u195, u196, u197, u198, u199, u200, u201, u202, u203, u204, u205, u206, u207, u208, u209, u210, u211, u212, u213, u214, u215, u216, c217, c218, c219, c220, c221, c222, c223, c224, c225, c226, c227, c228, c229, c230, c231, c232, c233, c234, c235, c236, c237, c238, c239, c240, c241, c242, c243, c244, c245, c246, c247, c248, c249, c250, c251, c252, c253, c254, c255, c256, c257, c258, c259, c260, c261, c262, c263, c264, c265, c266, c267, c268, c269, c270, c271, c272, c273, c274, c275, c276, c277, c278, c279, c280, c281, c282], []⟩ wr := by
  conv => arg 2; whnf
  have HB := Lib.hid hb
  have HX := Lib.hid hX
  have HKC := Lib.hid hkc
  have HFR := Lib.hid hfr
  have HS := Lib.hid hS
  have i0 : (0 : Int) ≤ (k : Int) := by omega
  have i1 : (k : Int) < 16 := by omega
  have j0 : (0 : Int) ≤ (k : Int) * 4 := by omega
  have j1 : (0 : Int) ≤ (k : Int) * 4 + 1 := by omega
  have j2 : (0 : Int) ≤ (k : Int) * 4 + 2 := by omega
  have j3 : (0 : Int) ≤ (k : Int) * 4 + 3 := by omega
  have l0 : (k : Int) * 4 < (pn : Int) := by omega
  have l1 : (k : Int) * 4 + 1 < (pn : Int) := by omega
  have l2 : (k : Int) * 4 + 2 < (pn : Int) := by omega
  have l3 : (k : Int) * 4 + 3 < (pn : Int) := by omega
  clear hb hX hpn hkc hfr hS
  go_wp2_with fail
  have t0 : ((k : Int) * 4).toNat = k * 4 := by omega
  have t1 : ((k : Int) * 4 + 1).toNat = k * 4 + 1 := by omega
  have t2 : ((k : Int) * 4 + 2).toNat = k * 4 + 2 := by omega
  have t3 : ((k : Int) * 4 + 3).toNat = k * 4 + 3 := by omega
  have q1 : IntKind.i64.wrap ((k : Int) * 4 + 1) = (k : Int) * 4 + 1 := by rw [IntKind.wrap_i64]; omega
  have q2 : IntKind.i64.wrap ((k : Int) * 4 + 2) = (k : Int) * 4 + 2 := by rw [IntKind.wrap_i64]; omega
  have q3 : IntKind.i64.wrap ((k : Int) * 4 + 3) = (k : Int) * 4 + 3 := by rw [IntKind.wrap_i64]; omega
  go_still_tail 31, (by kernel_rfl)
  change wpList _ _ _ _ _ wr.drew
  have HBD := Lib.hid HB.out.drew
  have HF2 := Lib.hid HFR.out.drew
  clear e0 e1 e2 e3 t0 t1 t2 t3 q1 q2 q3 j0 j1 j2 j3 l0 l1 l2 l3
  generalize wr.drew = w2 at *
  have hkl : k < X.length := by rw [HX.out]; omega
  have hc : w2.cell? ⟨wb, k, none⟩ = some (.int .u32 X[k]) := by rw [HBD.out.cell]; simp [hkl]
  have hf : w2.frozen? ⟨wb, k, none⟩ = false := HBD.out.frozen k
  go_wp2_with fail
  clear hc hf
  obtain ⟨y, hy⟩ : ∃ y, y = be32 z0 z1 z2 z3 := ⟨_, rfl⟩
  have HY := Lib.hid hy
  unfold be32 at hy
  rw [← hy]
  clear hy
  obtain ⟨w3, hw3⟩ : ∃ w3, w3 = w2.setCell ⟨wb, k, none⟩ (.int .u32 y) := ⟨_, rfl⟩
  rw [← hw3]
  have HW3 := Lib.hid hw3
  have B3 := Lib.hid (show Blk w3 wb 250 ((X.set k y).map (Value.int .u32)).toArray from by rw [hw3, map_set_arr]; exact HBD.out.set_ k _)
  have F3 := Lib.hid (show Fr [wb] w1 w3 from by rw [hw3]; exact HF2.out.setCell (.inl (by simp)) _)
  have hwc : w3.cell? ⟨wb, k, none⟩ = some (.int .u32 y) := by rw [B3.out.cell]; simp [hkl]
  have hkc := HKC.out w3 F3.out
  clear hw3
  go_quiet ((go_at_call 173; exact Calls.quiet_of_same (rot_any _ _ _ (by decide))))
  go_wp2_with (go_at_call 173; refine (rot_to _ _ _ (by decide)).mono ?_; rintro e w' ⟨rfl, rfl⟩)
  have hS := HS.out
  rw [← HY.out] at hS
  exact ⟨⟨k + 1, ⟨by omega, by rw [hS]; exact B3.out.drewN _, F3.out.drewN _⟩, _, _, _, _, _, _, _, _, _, _, _, _, _, _, _, _, _, _, _, _, _, _, _, _, _, _, _, _, _, _, _, _, _, _, _, _, _, _, _, _, _, _, _, _, _, _, _, _, _, _, _, _, _, _, _, _, _, _, _, _, _, _, _, _, _, _, _, _, _, _, _, _, _, _, _, _, _, _, _, _, _, _, _, _, _, _, _, _, _, _, _, _, _, _, _, _, _, _, _, _, _, _, _, _, _, _, _, _, _, _, _, _, _, _, _, _, _, _, _, _, _, _, _, _, _, _, _, _, _, _, _, _, _, _, _, _, _, _, _, _, _, _, _, _, by rw [hS]; rfl⟩, by simp [ShaMu, intOf]; omega⟩
end Go.Proofs.YtedjadicdodahaaGreatDoor

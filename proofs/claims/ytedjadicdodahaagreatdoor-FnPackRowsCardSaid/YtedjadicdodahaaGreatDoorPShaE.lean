/- sha256: the rounds of a block: the loop over the rounds. (printed by gen_psha.py) -/
import Derived.Test.YtedjadicdodahaaGreatDoorPShaB
import Derived.Test.YtedjadicdodahaaGreatDoorPShaD
namespace Go.Proofs.YtedjadicdodahaaGreatDoor
open Go.RowKit

/-- What holds behind the rounds. -/
def ShaX (S : Nat → V8 × List Int) (wb : Nat) (w1 : World) (pb pq pn pc : Nat) (c0 c2 c3 c5 c6 c7 c8 c9 c10 c11 c12 c29 c30 c31 c32 c33 c34 c35 c36 c37 c38 c39 c40 c41 c42 c43 c44 c45 c46 c47 c48 c49 c50 c51 c52 c53 c54 c55 c56 c57 c58 c59 c60 c61 c62 c63 c64 c65 c66 c67 c68 c69 c70 c71 c72 c73 c74 c75 c76 c77 c78 c79 c217 c218 c219 c220 c221 c222 c223 c224 c225 c226 c227 c228 c229 c230 c231 c232 c233 c234 c235 c236 c237 c238 c239 c240 c241 c242 c243 c244 c245 c246 c247 c248 c249 c250 c251 c252 c253 c254 c255 c256 c257 c258 c259 c260 c261 c262 c263 c264 c265 c266 c267 c268 c269 c270 c271 c272 c273 c274 c275 c276 c277 c278 c279 c280 c281 c282 : Value) (Q0 : Exit → Act → World → Prop) : Prop := ∀ (u21 u22 u23 u24 u25 u26 u27 u28 u81 u82 u83 u84 u85 u86 u87 u88 u89 u90 u91 u92 u93 u94 u95 u96 u97 u98 u99 u100 u101 u102 u103 u104 u105 u106 u107 u108 u109 u110 u111 u112 u113 u114 u115 u116 u117 u118 u119 u120 u121 u122 u123 u124 u125 u126 u127 u128 u129 u130 u131 u132 u133 u134 u135 u136 u137 u138 u139 u140 u141 u142 u143 u144 u145 u146 u147 u148 u149 u150 u151 u152 u153 u154 u155 u156 u157 u158 u159 u160 u161 u162 u163 u164 u165 u166 u167 u168 u169 u170 u171 u172 u173 u174 u175 u176 u177 u178 u179 u180 u181 u182 u183 u184 u185 u186 u187 u188 u189 u190 u191 u192 u193 u194 u195 u196 u197 u198 u199 u200 u201 u202 u203 u204 u205 u206 u207 u208 u209 u210 u211 u212 u213 u214 u215 u216 : Value) (w' : World), ShaR S wb w1 64 w' → Q0 (.exit 2) ⟨#[c0, .slice (some ⟨pb, pq, none⟩) pn pc, c2, c3, .pointer (some ⟨wb, 0, none⟩), c5, c6, c7, c8, c9, c10, c11, c12, .int .u32 (S 64).1.a, .int .u32 (S 64).1.b, .int .u32 (S 64).1.c, .int .u32 (S 64).1.d, .int .u32 (S 64).1.e, .int .u32 (S 64).1.f, .int .u32 (S 64).1.g, .int .u32 (S 64).1.h, u21, u22, u23, u24, u25, u26, u27, u28, c29, c30, c31, c32, c33, c34, c35, c36, c37, c38, c39, c40, c41, c42, c43, c44, c45, c46, c47, c48, c49, c50, c51, c52, c53, c54, c55, c56, c57, c58, c59, c60, c61, c62, c63, c64, c65, c66, c67, c68, c69, c70, c71, c72, c73, c74, c75, c76, c77, c78, c79, .int .i64 64, u81, u82, u83, u84, u85, u86, u87, u88, u89, u90, u91, u92, u93, u94, u95, u96, u97, u98, u99, u100, u101, u102, u103, u104, u105, u106, u107, u108, u109, u110, u111, u112, u113, u114, u115, u116, u117, u118, u119, u120, u121, u122, u123, u124, u125, u126, u127, u128, u129, u130, u131, u132, u133, u134, u135, u136, u137, u138, u139, u140, u141, u142, u143, u144, u145, u146, u147, u148, u149, u150, u151, u152, u153, u154, u155, u156, u157, u158, u159, u160, u161, u162, u163, u164, u165, u166, u167, u168, u169, u170, u171, u172, u173, u174, u175, u176, u177, u178, u179, u180, u181, u182, u183, u184, u185, u186, u187, u188, u189, u190, u191, u192, u193, u194, u195, u196, u197, u198, u199, u200, u201, u202, u203, u204, u205, u206, u207, u208, u209, u210, u211, u212, u213, u214, u215, u216, c217, c218, c219, c220, c221, c222, c223, c224, c225, c226, c227, c228, c229, c230, c231, c232, c233, c234, c235, c236, c237, c238, c239, c240, c241, c242, c243, c244, c245, c246, c247, c248, c249, c250, c251, c252, c253, c254, c255, c256, c257, c258, c259, c260, c261, c262, c263, c264, c265, c266, c267, c268, c269, c270, c271, c272, c273, c274, c275, c276, c277, c278, c279, c280, c281, c282], []⟩ w'
set_option maxRecDepth 1000000 in
set_option maxHeartbeats 4000000 in
theorem sha_exit (wb pb pq pn pc : Nat) (v : V8) (wr : World) (Q0 : Exit → Act → World → Prop) (c0 c2 c3 c5 c6 c7 c8 c9 c10 c11 c12 c29 c30 c31 c32 c33 c34 c35 c36 c37 c38 c39 c40 c41 c42 c43 c44 c45 c46 c47 c48 c49 c50 c51 c52 c53 c54 c55 c56 c57 c58 c59 c60 c61 c62 c63 c64 c65 c66 c67 c68 c69 c70 c71 c72 c73 c74 c75 c76 c77 c78 c79 c217 c218 c219 c220 c221 c222 c223 c224 c225 c226 c227 c228 c229 c230 c231 c232 c233 c234 c235 c236 c237 c238 c239 c240 c241 c242 c243 c244 c245 c246 c247 c248 c249 c250 c251 c252 c253 c254 c255 c256 c257 c258 c259 c260 c261 c262 c263 c264 c265 c266 c267 c268 c269 c270 c271 c272 c273 c274 c275 c276 c277 c278 c279 c280 c281 c282 u21 u22 u23 u24 u25 u26 u27 u28 u81 u82 u83 u84 u85 u86 u87 u88 u89 u90 u91 u92 u93 u94 u95 u96 u97 u98 u99 u100 u101 u102 u103 u104 u105 u106 u107 u108 u109 u110 u111 u112 u113 u114 u115 u116 u117 u118 u119 u120 u121 u122 u123 u124 u125 u126 u127 u128 u129 u130 u131 u132 u133 u134 u135 u136 u137 u138 u139 u140 u141 u142 u143 u144 u145 u146 u147 u148 u149 u150 u151 u152 u153 u154 u155 u156 u157 u158 u159 u160 u161 u162 u163 u164 u165 u166 u167 u168 u169 u170 u171 u172 u173 u174 u175 u176 u177 u178 u179 u180 u181 u182 u183 u184 u185 u186 u187 u188 u189 u190 u191 u192 u193 u194 u195 u196 u197 u198 u199 u200 u201 u202 u203 u204 u205 u206 u207 u208 u209 u210 u211 u212 u213 u214 u215 u216 : Value) (I : Act → World → Prop)
    (hx : ∀ (u21 u22 u23 u24 u25 u26 u27 u28 u81 u82 u83 u84 u85 u86 u87 u88 u89 u90 u91 u92 u93 u94 u95 u96 u97 u98 u99 u100 u101 u102 u103 u104 u105 u106 u107 u108 u109 u110 u111 u112 u113 u114 u115 u116 u117 u118 u119 u120 u121 u122 u123 u124 u125 u126 u127 u128 u129 u130 u131 u132 u133 u134 u135 u136 u137 u138 u139 u140 u141 u142 u143 u144 u145 u146 u147 u148 u149 u150 u151 u152 u153 u154 u155 u156 u157 u158 u159 u160 u161 u162 u163 u164 u165 u166 u167 u168 u169 u170 u171 u172 u173 u174 u175 u176 u177 u178 u179 u180 u181 u182 u183 u184 u185 u186 u187 u188 u189 u190 u191 u192 u193 u194 u195 u196 u197 u198 u199 u200 u201 u202 u203 u204 u205 u206 u207 u208 u209 u210 u211 u212 u213 u214 u215 u216 : Value), Q0 (.exit 2) ⟨#[c0, .slice (some ⟨pb, pq, none⟩) pn pc, c2, c3, .pointer (some ⟨wb, 0, none⟩), c5, c6, c7, c8, c9, c10, c11, c12, .int .u32 v.a, .int .u32 v.b, .int .u32 v.c, .int .u32 v.d, .int .u32 v.e, .int .u32 v.f, .int .u32 v.g, .int .u32 v.h, u21, u22, u23, u24, u25, u26, u27, u28, c29, c30, c31, c32, c33, c34, c35, c36, c37, c38, c39, c40, c41, c42, c43, c44, c45, c46, c47, c48, c49, c50, c51, c52, c53, c54, c55, c56, c57, c58, c59, c60, c61, c62, c63, c64, c65, c66, c67, c68, c69, c70, c71, c72, c73, c74, c75, c76, c77, c78, c79, .int .i64 64, u81, u82, u83, u84, u85, u86, u87, u88, u89, u90, u91, u92, u93, u94, u95, u96, u97, u98, u99, u100, u101, u102, u103, u104, u105, u106, u107, u108, u109, u110, u111, u112, u113, u114, u115, u116, u117, u118, u119, u120, u121, u122, u123, u124, u125, u126, u127, u128, u129, u130, u131, u132, u133, u134, u135, u136, u137, u138, u139, u140, u141, u142, u143, u144, u145, u146, u147, u148, u149, u150, u151, u152, u153, u154, u155, u156, u157, u158, u159, u160, u161, u162, u163, u164, u165, u166, u167, u168, u169, u170, u171, u172, u173, u174, u175, u176, u177, u178, u179, u180, u181, u182, u183, u184, u185, u186, u187, u188, u189, u190, u191, u192, u193, u194, u195, u196, u197, u198, u199, u200, u201, u202, u203, u204, u205, u206, u207, u208, u209, u210, u211, u212, u213, u214, u215, u216, c217, c218, c219, c220, c221, c222, c223, c224, c225, c226, c227, c228, c229, c230, c231, c232, c233, c234, c235, c236, c237, c238, c239, c240, c241, c242, c243, c244, c245, c246, c247, c248, c249, c250, c251, c252, c253, c254, c255, c256, c257, c258, c259, c260, c261, c262, c263, c264, c265, c266, c267, c268, c269, c270, c271, c272, c273, c274, c275, c276, c277, c278, c279, c280, c281, c282], []⟩ wr) :
    Code.wp Tryz.prog shaInner (Exit.then I Q0) ⟨#[c0, .slice (some ⟨pb, pq, none⟩) pn pc, c2, c3, .pointer (some ⟨wb, 0, none⟩), c5, c6, c7, c8, c9, c10, c11, c12, .int .u32 v.a, .int .u32 v.b, .int .u32 v.c, .int .u32 v.d, .int .u32 v.e, .int .u32 v.f, .int .u32 v.g, .int .u32 v.h, u21, u22, u23, u24, u25, u26, u27, u28, c29, c30, c31, c32, c33, c34, c35, c36, c37, c38, c39, c40, c41, c42, c43, c44, c45, c46, c47, c48, c49, c50, c51, c52, c53, c54, c55, c56, c57, c58, c59, c60, c61, c62, c63, c64, c65, c66, c67, c68, c69, c70, c71, c72, c73, c74, c75, c76, c77, c78, c79, .int .i64 64, u81, u82, u83, u84, u85, u86, u87, u88, u89, u90, u91, u92, u93, u94, u95, u96, u97, u98, u99, u100, u101, u102, u103, u104, u105, u106, u107, u108, u109, u110, u111, u112, u113, u114, u115, u116, u117, u118, u119, u120, u121, u122, u123, u124, u125, u126, u127, u128, u129, u130, u131, u132, u133, u134, u135, u136, u137, u138, u139, u140, u141, u142, u143, u144, u145, u146, u147, u148, u149, u150, u151, u152, u153, u154, u155, u156, u157, u158, u159, u160, u161, u162, u163, u164, u165, u166, u167, u168, u169, u170, u171, u172, u173, u174, u175, u176, u177, u178, u179, u180, u181, u182, u183, u184, u185, u186, u187, u188, u189, u190, u191, u192, u193, u194, u195, u196, u197, u198, u199, u200, u201, u202, u203, u204, u205, u206, u207, u208, u209, u210, u211, u212, u213, u214, u215, u216, c217, c218, c219, c220, c221, c222, c223, c224, c225, c226, c227, c228, c229, c230, c231, c232, c233, c234, c235, c236, c237, c238, c239, c240, c241, c242, c243, c244, c245, c246, c247, c248, c249, c250, c251, c252, c253, c254, c255, c256, c257, c258, c259, c260, c261, c262, c263, c264, c265, c266, c267, c268, c269, c270, c271, c272, c273, c274, c275, c276, c277, c278, c279, c280, c281, c282], []⟩ wr := by
  conv => arg 2; whnf
  have HX := Lib.hid hx
  clear hx
  go_wp2_with fail
  exact HX.out _ _ _ _ _ _ _ _ _ _ _ _ _ _ _ _ _ _ _ _ _ _ _ _ _ _ _ _ _ _ _ _ _ _ _ _ _ _ _ _ _ _ _ _ _ _ _ _ _ _ _ _ _ _ _ _ _ _ _ _ _ _ _ _ _ _ _ _ _ _ _ _ _ _ _ _ _ _ _ _ _ _ _ _ _ _ _ _ _ _ _ _ _ _ _ _ _ _ _ _ _ _ _ _ _ _ _ _ _ _ _ _ _ _ _ _ _ _ _ _ _ _ _ _ _ _ _ _ _ _ _ _ _ _ _ _ _ _ _ _ _ _ _ _
set_option maxRecDepth 1000000 in
set_option maxHeartbeats 4000000 in
theorem sha_round (K ch : List Int) (s0 : V8 × List Int) (wb : Nat) (w1 : World) (pb pq pn pc : Nat) (Q0 : Exit → Act → World → Prop) (c0 c2 c3 c5 c6 c7 c8 c9 c10 c11 c12 c29 c30 c31 c32 c33 c34 c35 c36 c37 c38 c39 c40 c41 c42 c43 c44 c45 c46 c47 c48 c49 c50 c51 c52 c53 c54 c55 c56 c57 c58 c59 c60 c61 c62 c63 c64 c65 c66 c67 c68 c69 c70 c71 c72 c73 c74 c75 c76 c77 c78 c79 c217 c218 c219 c220 c221 c222 c223 c224 c225 c226 c227 c228 c229 c230 c231 c232 c233 c234 c235 c236 c237 c238 c239 c240 c241 c242 c243 c244 c245 c246 c247 c248 c249 c250 c251 c252 c253 c254 c255 c256 c257 c258 c259 c260 c261 c262 c263 c264 c265 c266 c267 c268 c269 c270 c271 c272 c273 c274 c275 c276 c277 c278 c279 c280 c281 c282 : Value)
    (hl : s0.2.length = 64) (hpn : 64 ≤ pn) (hch : ∀ j, j < 64 → ∀ W, Fr [wb] w1 W → W.cell? ⟨pb, pq + j, none⟩ = some (.int .u8 (ch.getD j 0)))
    (hkb : ∀ k, k < 64 → ∀ W, Fr [wb] w1 W → W.cell? ⟨10, k, none⟩ = some (.int .u32 (K.getD k 0)))
    (hx : ShaX (rounds K ch s0) wb w1 pb pq pn pc c0 c2 c3 c5 c6 c7 c8 c9 c10 c11 c12 c29 c30 c31 c32 c33 c34 c35 c36 c37 c38 c39 c40 c41 c42 c43 c44 c45 c46 c47 c48 c49 c50 c51 c52 c53 c54 c55 c56 c57 c58 c59 c60 c61 c62 c63 c64 c65 c66 c67 c68 c69 c70 c71 c72 c73 c74 c75 c76 c77 c78 c79 c217 c218 c219 c220 c221 c222 c223 c224 c225 c226 c227 c228 c229 c230 c231 c232 c233 c234 c235 c236 c237 c238 c239 c240 c241 c242 c243 c244 c245 c246 c247 c248 c249 c250 c251 c252 c253 c254 c255 c256 c257 c258 c259 c260 c261 c262 c263 c264 c265 c266 c267 c268 c269 c270 c271 c272 c273 c274 c275 c276 c277 c278 c279 c280 c281 c282 Q0) (a : Act) (w' : World) (hI : ShaI (rounds K ch s0) wb w1 pb pq pn pc c0 c2 c3 c5 c6 c7 c8 c9 c10 c11 c12 c29 c30 c31 c32 c33 c34 c35 c36 c37 c38 c39 c40 c41 c42 c43 c44 c45 c46 c47 c48 c49 c50 c51 c52 c53 c54 c55 c56 c57 c58 c59 c60 c61 c62 c63 c64 c65 c66 c67 c68 c69 c70 c71 c72 c73 c74 c75 c76 c77 c78 c79 c217 c218 c219 c220 c221 c222 c223 c224 c225 c226 c227 c228 c229 c230 c231 c232 c233 c234 c235 c236 c237 c238 c239 c240 c241 c242 c243 c244 c245 c246 c247 c248 c249 c250 c251 c252 c253 c254 c255 c256 c257 c258 c259 c260 c261 c262 c263 c264 c265 c266 c267 c268 c269 c270 c271 c272 c273 c274 c275 c276 c277 c278 c279 c280 c281 c282 a w') :
    Code.wp Tryz.prog shaInner (Exit.then (fun a' w'' => ShaI (rounds K ch s0) wb w1 pb pq pn pc c0 c2 c3 c5 c6 c7 c8 c9 c10 c11 c12 c29 c30 c31 c32 c33 c34 c35 c36 c37 c38 c39 c40 c41 c42 c43 c44 c45 c46 c47 c48 c49 c50 c51 c52 c53 c54 c55 c56 c57 c58 c59 c60 c61 c62 c63 c64 c65 c66 c67 c68 c69 c70 c71 c72 c73 c74 c75 c76 c77 c78 c79 c217 c218 c219 c220 c221 c222 c223 c224 c225 c226 c227 c228 c229 c230 c231 c232 c233 c234 c235 c236 c237 c238 c239 c240 c241 c242 c243 c244 c245 c246 c247 c248 c249 c250 c251 c252 c253 c254 c255 c256 c257 c258 c259 c260 c261 c262 c263 c264 c265 c266 c267 c268 c269 c270 c271 c272 c273 c274 c275 c276 c277 c278 c279 c280 c281 c282 a' w'' ∧ ShaMu a' w'' < ShaMu a w') Q0) a w' := by
  unfold ShaI at hI
  obtain ⟨k, R, hI⟩ := hI
  obtain ⟨u21, hI⟩ := hI
  obtain ⟨u22, hI⟩ := hI
  obtain ⟨u23, hI⟩ := hI
  obtain ⟨u24, hI⟩ := hI
  obtain ⟨u25, hI⟩ := hI
  obtain ⟨u26, hI⟩ := hI
  obtain ⟨u27, hI⟩ := hI
  obtain ⟨u28, hI⟩ := hI
  obtain ⟨u81, hI⟩ := hI
  obtain ⟨u82, hI⟩ := hI
  obtain ⟨u83, hI⟩ := hI
  obtain ⟨u84, hI⟩ := hI
  obtain ⟨u85, hI⟩ := hI
  obtain ⟨u86, hI⟩ := hI
  obtain ⟨u87, hI⟩ := hI
  obtain ⟨u88, hI⟩ := hI
  obtain ⟨u89, hI⟩ := hI
  obtain ⟨u90, hI⟩ := hI
  obtain ⟨u91, hI⟩ := hI
  obtain ⟨u92, hI⟩ := hI
  obtain ⟨u93, hI⟩ := hI
  obtain ⟨u94, hI⟩ := hI
  obtain ⟨u95, hI⟩ := hI
  obtain ⟨u96, hI⟩ := hI
  obtain ⟨u97, hI⟩ := hI
  obtain ⟨u98, hI⟩ := hI
  obtain ⟨u99, hI⟩ := hI
  obtain ⟨u100, hI⟩ := hI
  obtain ⟨u101, hI⟩ := hI
  obtain ⟨u102, hI⟩ := hI
  obtain ⟨u103, hI⟩ := hI
  obtain ⟨u104, hI⟩ := hI
  obtain ⟨u105, hI⟩ := hI
  obtain ⟨u106, hI⟩ := hI
  obtain ⟨u107, hI⟩ := hI
  obtain ⟨u108, hI⟩ := hI
  obtain ⟨u109, hI⟩ := hI
  obtain ⟨u110, hI⟩ := hI
  obtain ⟨u111, hI⟩ := hI
  obtain ⟨u112, hI⟩ := hI
  obtain ⟨u113, hI⟩ := hI
  obtain ⟨u114, hI⟩ := hI
  obtain ⟨u115, hI⟩ := hI
  obtain ⟨u116, hI⟩ := hI
  obtain ⟨u117, hI⟩ := hI
  obtain ⟨u118, hI⟩ := hI
  obtain ⟨u119, hI⟩ := hI
  obtain ⟨u120, hI⟩ := hI
  obtain ⟨u121, hI⟩ := hI
  obtain ⟨u122, hI⟩ := hI
  obtain ⟨u123, hI⟩ := hI
  obtain ⟨u124, hI⟩ := hI
  obtain ⟨u125, hI⟩ := hI
  obtain ⟨u126, hI⟩ := hI
  obtain ⟨u127, hI⟩ := hI
  obtain ⟨u128, hI⟩ := hI
  obtain ⟨u129, hI⟩ := hI
  obtain ⟨u130, hI⟩ := hI
  obtain ⟨u131, hI⟩ := hI
  obtain ⟨u132, hI⟩ := hI
  obtain ⟨u133, hI⟩ := hI
  obtain ⟨u134, hI⟩ := hI
  obtain ⟨u135, hI⟩ := hI
  obtain ⟨u136, hI⟩ := hI
  obtain ⟨u137, hI⟩ := hI
  obtain ⟨u138, hI⟩ := hI
  obtain ⟨u139, hI⟩ := hI
  obtain ⟨u140, hI⟩ := hI
  obtain ⟨u141, hI⟩ := hI
  obtain ⟨u142, hI⟩ := hI
  obtain ⟨u143, hI⟩ := hI
  obtain ⟨u144, hI⟩ := hI
  obtain ⟨u145, hI⟩ := hI
  obtain ⟨u146, hI⟩ := hI
  obtain ⟨u147, hI⟩ := hI
  obtain ⟨u148, hI⟩ := hI
  obtain ⟨u149, hI⟩ := hI
  obtain ⟨u150, hI⟩ := hI
  obtain ⟨u151, hI⟩ := hI
  obtain ⟨u152, hI⟩ := hI
  obtain ⟨u153, hI⟩ := hI
  obtain ⟨u154, hI⟩ := hI
  obtain ⟨u155, hI⟩ := hI
  obtain ⟨u156, hI⟩ := hI
  obtain ⟨u157, hI⟩ := hI
  obtain ⟨u158, hI⟩ := hI
  obtain ⟨u159, hI⟩ := hI
  obtain ⟨u160, hI⟩ := hI
  obtain ⟨u161, hI⟩ := hI
  obtain ⟨u162, hI⟩ := hI
  obtain ⟨u163, hI⟩ := hI
  obtain ⟨u164, hI⟩ := hI
  obtain ⟨u165, hI⟩ := hI
  obtain ⟨u166, hI⟩ := hI
  obtain ⟨u167, hI⟩ := hI
  obtain ⟨u168, hI⟩ := hI
  obtain ⟨u169, hI⟩ := hI
  obtain ⟨u170, hI⟩ := hI
  obtain ⟨u171, hI⟩ := hI
  obtain ⟨u172, hI⟩ := hI
  obtain ⟨u173, hI⟩ := hI
  obtain ⟨u174, hI⟩ := hI
  obtain ⟨u175, hI⟩ := hI
  obtain ⟨u176, hI⟩ := hI
  obtain ⟨u177, hI⟩ := hI
  obtain ⟨u178, hI⟩ := hI
  obtain ⟨u179, hI⟩ := hI
  obtain ⟨u180, hI⟩ := hI
  obtain ⟨u181, hI⟩ := hI
  obtain ⟨u182, hI⟩ := hI
  obtain ⟨u183, hI⟩ := hI
  obtain ⟨u184, hI⟩ := hI
  obtain ⟨u185, hI⟩ := hI
  obtain ⟨u186, hI⟩ := hI
  obtain ⟨u187, hI⟩ := hI
  obtain ⟨u188, hI⟩ := hI
  obtain ⟨u189, hI⟩ := hI
  obtain ⟨u190, hI⟩ := hI
  obtain ⟨u191, hI⟩ := hI
  obtain ⟨u192, hI⟩ := hI
  obtain ⟨u193, hI⟩ := hI
  obtain ⟨u194, hI⟩ := hI
  obtain ⟨u195, hI⟩ := hI
  obtain ⟨u196, hI⟩ := hI
  obtain ⟨u197, hI⟩ := hI
  obtain ⟨u198, hI⟩ := hI
  obtain ⟨u199, hI⟩ := hI
  obtain ⟨u200, hI⟩ := hI
  obtain ⟨u201, hI⟩ := hI
  obtain ⟨u202, hI⟩ := hI
  obtain ⟨u203, hI⟩ := hI
  obtain ⟨u204, hI⟩ := hI
  obtain ⟨u205, hI⟩ := hI
  obtain ⟨u206, hI⟩ := hI
  obtain ⟨u207, hI⟩ := hI
  obtain ⟨u208, hI⟩ := hI
  obtain ⟨u209, hI⟩ := hI
  obtain ⟨u210, hI⟩ := hI
  obtain ⟨u211, hI⟩ := hI
  obtain ⟨u212, hI⟩ := hI
  obtain ⟨u213, hI⟩ := hI
  obtain ⟨u214, hI⟩ := hI
  obtain ⟨u215, hI⟩ := hI
  obtain ⟨u216, hI⟩ := hI
  subst hI
  have hxl : (rounds K ch s0 k).2.length = 64 := (rounds_len K ch s0 k).trans hl
  by_cases h1 : k < 16
  · exact sha_case1 (rounds K ch s0) wb w1 pb pq pn pc k _ _ w' Q0 c0 c2 c3 c5 c6 c7 c8 c9 c10 c11 c12 c29 c30 c31 c32 c33 c34 c35 c36 c37 c38 c39 c40 c41 c42 c43 c44 c45 c46 c47 c48 c49 c50 c51 c52 c53 c54 c55 c56 c57 c58 c59 c60 c61 c62 c63 c64 c65 c66 c67 c68 c69 c70 c71 c72 c73 c74 c75 c76 c77 c78 c79 c217 c218 c219 c220 c221 c222 c223 c224 c225 c226 c227 c228 c229 c230 c231 c232 c233 c234 c235 c236 c237 c238 c239 c240 c241 c242 c243 c244 c245 c246 c247 c248 c249 c250 c251 c252 c253 c254 c255 c256 c257 c258 c259 c260 c261 c262 c263 c264 c265 c266 c267 c268 c269 c270 c271 c272 c273 c274 c275 c276 c277 c278 c279 c280 c281 c282 u21 u22 u23 u24 u25 u26 u27 u28 u81 u82 u83 u84 u85 u86 u87 u88 u89 u90 u91 u92 u93 u94 u95 u96 u97 u98 u99 u100 u101 u102 u103 u104 u105 u106 u107 u108 u109 u110 u111 u112 u113 u114 u115 u116 u117 u118 u119 u120 u121 u122 u123 u124 u125 u126 u127 u128 u129 u130 u131 u132 u133 u134 u135 u136 u137 u138 u139 u140 u141 u142 u143 u144 u145 u146 u147 u148 u149 u150 u151 u152 u153 u154 u155 u156 u157 u158 u159 u160 u161 u162 u163 u164 u165 u166 u167 u168 u169 u170 u171 u172 u173 u174 u175 u176 u177 u178 u179 u180 u181 u182 u183 u184 u185 u186 u187 u188 u189 u190 u191 u192 u193 u194 u195 u196 u197 u198 u199 u200 u201 u202 u203 u204 u205 u206 u207 u208 u209 u210 u211 u212 u213 u214 u215 u216 _ _ _ _ _ h1 (by omega) (by show rstep K ch k (rounds K ch s0 k) = _; unfold rstep wNew; rw [if_pos h1]) (hch (k * 4) (by omega) w' R.fr) (hch (k * 4 + 1) (by omega) w' R.fr) (hch (k * 4 + 2) (by omega) w' R.fr) (hch (k * 4 + 3) (by omega) w' R.fr) hxl R.blk (hkb k (by omega)) R.fr
  · by_cases h2 : k < 64
    · have hc : ∀ d, 1 ≤ d → d ≤ 16 → w'.cell? ⟨wb, k - d, none⟩ = some (.int .u32 ((rounds K ch s0 k).2.getD (k - d) 0)) := fun d hd hd2 => by
        rw [R.blk.cell, List.getElem?_toArray, List.getElem?_map, List.getD_eq_getElem?_getD, List.getElem?_eq_getElem (by omega)]
        rfl
      exact sha_case2 (rounds K ch s0) wb w1 pb pq pn pc k _ _ w' Q0 c0 c2 c3 c5 c6 c7 c8 c9 c10 c11 c12 c29 c30 c31 c32 c33 c34 c35 c36 c37 c38 c39 c40 c41 c42 c43 c44 c45 c46 c47 c48 c49 c50 c51 c52 c53 c54 c55 c56 c57 c58 c59 c60 c61 c62 c63 c64 c65 c66 c67 c68 c69 c70 c71 c72 c73 c74 c75 c76 c77 c78 c79 c217 c218 c219 c220 c221 c222 c223 c224 c225 c226 c227 c228 c229 c230 c231 c232 c233 c234 c235 c236 c237 c238 c239 c240 c241 c242 c243 c244 c245 c246 c247 c248 c249 c250 c251 c252 c253 c254 c255 c256 c257 c258 c259 c260 c261 c262 c263 c264 c265 c266 c267 c268 c269 c270 c271 c272 c273 c274 c275 c276 c277 c278 c279 c280 c281 c282 u21 u22 u23 u24 u25 u26 u27 u28 u81 u82 u83 u84 u85 u86 u87 u88 u89 u90 u91 u92 u93 u94 u95 u96 u97 u98 u99 u100 u101 u102 u103 u104 u105 u106 u107 u108 u109 u110 u111 u112 u113 u114 u115 u116 u117 u118 u119 u120 u121 u122 u123 u124 u125 u126 u127 u128 u129 u130 u131 u132 u133 u134 u135 u136 u137 u138 u139 u140 u141 u142 u143 u144 u145 u146 u147 u148 u149 u150 u151 u152 u153 u154 u155 u156 u157 u158 u159 u160 u161 u162 u163 u164 u165 u166 u167 u168 u169 u170 u171 u172 u173 u174 u175 u176 u177 u178 u179 u180 u181 u182 u183 u184 u185 u186 u187 u188 u189 u190 u191 u192 u193 u194 u195 u196 u197 u198 u199 u200 u201 u202 u203 u204 u205 u206 u207 u208 u209 u210 u211 u212 u213 u214 u215 u216 _ _ _ _ _ (by omega) h2 (by show rstep K ch k (rounds K ch s0 k) = _; unfold rstep wNew; rw [if_neg h1]) (hc 2 (by omega) (by omega)) (hc 7 (by omega) (by omega)) (hc 15 (by omega) (by omega)) (hc 16 (by omega) (by omega)) hxl R.blk (hkb k h2) R.fr
    · have hk : k = 64 := by have := R.le; omega
      subst hk
      exact sha_exit wb pb pq pn pc _ w' Q0 c0 c2 c3 c5 c6 c7 c8 c9 c10 c11 c12 c29 c30 c31 c32 c33 c34 c35 c36 c37 c38 c39 c40 c41 c42 c43 c44 c45 c46 c47 c48 c49 c50 c51 c52 c53 c54 c55 c56 c57 c58 c59 c60 c61 c62 c63 c64 c65 c66 c67 c68 c69 c70 c71 c72 c73 c74 c75 c76 c77 c78 c79 c217 c218 c219 c220 c221 c222 c223 c224 c225 c226 c227 c228 c229 c230 c231 c232 c233 c234 c235 c236 c237 c238 c239 c240 c241 c242 c243 c244 c245 c246 c247 c248 c249 c250 c251 c252 c253 c254 c255 c256 c257 c258 c259 c260 c261 c262 c263 c264 c265 c266 c267 c268 c269 c270 c271 c272 c273 c274 c275 c276 c277 c278 c279 c280 c281 c282 u21 u22 u23 u24 u25 u26 u27 u28 u81 u82 u83 u84 u85 u86 u87 u88 u89 u90 u91 u92 u93 u94 u95 u96 u97 u98 u99 u100 u101 u102 u103 u104 u105 u106 u107 u108 u109 u110 u111 u112 u113 u114 u115 u116 u117 u118 u119 u120 u121 u122 u123 u124 u125 u126 u127 u128 u129 u130 u131 u132 u133 u134 u135 u136 u137 u138 u139 u140 u141 u142 u143 u144 u145 u146 u147 u148 u149 u150 u151 u152 u153 u154 u155 u156 u157 u158 u159 u160 u161 u162 u163 u164 u165 u166 u167 u168 u169 u170 u171 u172 u173 u174 u175 u176 u177 u178 u179 u180 u181 u182 u183 u184 u185 u186 u187 u188 u189 u190 u191 u192 u193 u194 u195 u196 u197 u198 u199 u200 u201 u202 u203 u204 u205 u206 u207 u208 u209 u210 u211 u212 u213 u214 u215 u216 _ (fun u21 u22 u23 u24 u25 u26 u27 u28 u81 u82 u83 u84 u85 u86 u87 u88 u89 u90 u91 u92 u93 u94 u95 u96 u97 u98 u99 u100 u101 u102 u103 u104 u105 u106 u107 u108 u109 u110 u111 u112 u113 u114 u115 u116 u117 u118 u119 u120 u121 u122 u123 u124 u125 u126 u127 u128 u129 u130 u131 u132 u133 u134 u135 u136 u137 u138 u139 u140 u141 u142 u143 u144 u145 u146 u147 u148 u149 u150 u151 u152 u153 u154 u155 u156 u157 u158 u159 u160 u161 u162 u163 u164 u165 u166 u167 u168 u169 u170 u171 u172 u173 u174 u175 u176 u177 u178 u179 u180 u181 u182 u183 u184 u185 u186 u187 u188 u189 u190 u191 u192 u193 u194 u195 u196 u197 u198 u199 u200 u201 u202 u203 u204 u205 u206 u207 u208 u209 u210 u211 u212 u213 u214 u215 u216 => hx u21 u22 u23 u24 u25 u26 u27 u28 u81 u82 u83 u84 u85 u86 u87 u88 u89 u90 u91 u92 u93 u94 u95 u96 u97 u98 u99 u100 u101 u102 u103 u104 u105 u106 u107 u108 u109 u110 u111 u112 u113 u114 u115 u116 u117 u118 u119 u120 u121 u122 u123 u124 u125 u126 u127 u128 u129 u130 u131 u132 u133 u134 u135 u136 u137 u138 u139 u140 u141 u142 u143 u144 u145 u146 u147 u148 u149 u150 u151 u152 u153 u154 u155 u156 u157 u158 u159 u160 u161 u162 u163 u164 u165 u166 u167 u168 u169 u170 u171 u172 u173 u174 u175 u176 u177 u178 u179 u180 u181 u182 u183 u184 u185 u186 u187 u188 u189 u190 u191 u192 u193 u194 u195 u196 u197 u198 u199 u200 u201 u202 u203 u204 u205 u206 u207 u208 u209 u210 u211 u212 u213 u214 u215 u216 w' R)
set_option maxRecDepth 1000000 in
set_option maxHeartbeats 4000000 in
theorem sha_loop (K ch : List Int) (v : V8) (X : List Int) (wb : Nat) (w1 : World) (pb pq pn pc : Nat) (Q0 : Exit → Act → World → Prop) (c0 c2 c3 c5 c6 c7 c8 c9 c10 c11 c12 c29 c30 c31 c32 c33 c34 c35 c36 c37 c38 c39 c40 c41 c42 c43 c44 c45 c46 c47 c48 c49 c50 c51 c52 c53 c54 c55 c56 c57 c58 c59 c60 c61 c62 c63 c64 c65 c66 c67 c68 c69 c70 c71 c72 c73 c74 c75 c76 c77 c78 c79 c217 c218 c219 c220 c221 c222 c223 c224 c225 c226 c227 c228 c229 c230 c231 c232 c233 c234 c235 c236 c237 c238 c239 c240 c241 c242 c243 c244 c245 c246 c247 c248 c249 c250 c251 c252 c253 c254 c255 c256 c257 c258 c259 c260 c261 c262 c263 c264 c265 c266 c267 c268 c269 c270 c271 c272 c273 c274 c275 c276 c277 c278 c279 c280 c281 c282 u21 u22 u23 u24 u25 u26 u27 u28 u81 u82 u83 u84 u85 u86 u87 u88 u89 u90 u91 u92 u93 u94 u95 u96 u97 u98 u99 u100 u101 u102 u103 u104 u105 u106 u107 u108 u109 u110 u111 u112 u113 u114 u115 u116 u117 u118 u119 u120 u121 u122 u123 u124 u125 u126 u127 u128 u129 u130 u131 u132 u133 u134 u135 u136 u137 u138 u139 u140 u141 u142 u143 u144 u145 u146 u147 u148 u149 u150 u151 u152 u153 u154 u155 u156 u157 u158 u159 u160 u161 u162 u163 u164 u165 u166 u167 u168 u169 u170 u171 u172 u173 u174 u175 u176 u177 u178 u179 u180 u181 u182 u183 u184 u185 u186 u187 u188 u189 u190 u191 u192 u193 u194 u195 u196 u197 u198 u199 u200 u201 u202 u203 u204 u205 u206 u207 u208 u209 u210 u211 u212 u213 u214 u215 u216 : Value) (w' : World)
    (hl : X.length = 64) (hpn : 64 ≤ pn) (hch : ∀ j, j < 64 → ∀ W, Fr [wb] w1 W → W.cell? ⟨pb, pq + j, none⟩ = some (.int .u8 (ch.getD j 0)))
    (hkb : ∀ k, k < 64 → ∀ W, Fr [wb] w1 W → W.cell? ⟨10, k, none⟩ = some (.int .u32 (K.getD k 0))) (hb : Blk w' wb 250 (X.map (Value.int .u32)).toArray) (hfr : Fr [wb] w1 w')
    (hx : ShaX (rounds K ch (v, X)) wb w1 pb pq pn pc c0 c2 c3 c5 c6 c7 c8 c9 c10 c11 c12 c29 c30 c31 c32 c33 c34 c35 c36 c37 c38 c39 c40 c41 c42 c43 c44 c45 c46 c47 c48 c49 c50 c51 c52 c53 c54 c55 c56 c57 c58 c59 c60 c61 c62 c63 c64 c65 c66 c67 c68 c69 c70 c71 c72 c73 c74 c75 c76 c77 c78 c79 c217 c218 c219 c220 c221 c222 c223 c224 c225 c226 c227 c228 c229 c230 c231 c232 c233 c234 c235 c236 c237 c238 c239 c240 c241 c242 c243 c244 c245 c246 c247 c248 c249 c250 c251 c252 c253 c254 c255 c256 c257 c258 c259 c260 c261 c262 c263 c264 c265 c266 c267 c268 c269 c270 c271 c272 c273 c274 c275 c276 c277 c278 c279 c280 c281 c282 Q0) :
    Code.wp Tryz.prog (.loop shaInner) Q0 ⟨#[c0, .slice (some ⟨pb, pq, none⟩) pn pc, c2, c3, .pointer (some ⟨wb, 0, none⟩), c5, c6, c7, c8, c9, c10, c11, c12, .int .u32 v.a, .int .u32 v.b, .int .u32 v.c, .int .u32 v.d, .int .u32 v.e, .int .u32 v.f, .int .u32 v.g, .int .u32 v.h, u21, u22, u23, u24, u25, u26, u27, u28, c29, c30, c31, c32, c33, c34, c35, c36, c37, c38, c39, c40, c41, c42, c43, c44, c45, c46, c47, c48, c49, c50, c51, c52, c53, c54, c55, c56, c57, c58, c59, c60, c61, c62, c63, c64, c65, c66, c67, c68, c69, c70, c71, c72, c73, c74, c75, c76, c77, c78, c79, .int .i64 0, u81, u82, u83, u84, u85, u86, u87, u88, u89, u90, u91, u92, u93, u94, u95, u96, u97, u98, u99, u100, u101, u102, u103, u104, u105, u106, u107, u108, u109, u110, u111, u112, u113, u114, u115, u116, u117, u118, u119, u120, u121, u122, u123, u124, u125, u126, u127, u128, u129, u130, u131, u132, u133, u134, u135, u136, u137, u138, u139, u140, u141, u142, u143, u144, u145, u146, u147, u148, u149, u150, u151, u152, u153, u154, u155, u156, u157, u158, u159, u160, u161, u162, u163, u164, u165, u166, u167, u168, u169, u170, u171, u172, u173, u174, u175, u176, u177, u178, u179, u180, u181, u182, u183, u184, u185, u186, u187, u188, u189, u190, u191, u192, u193, u194, u195, u196, u197, u198, u199, u200, u201, u202, u203, u204, u205, u206, u207, u208, u209, u210, u211, u212, u213, u214, u215, u216, c217, c218, c219, c220, c221, c222, c223, c224, c225, c226, c227, c228, c229, c230, c231, c232, c233, c234, c235, c236, c237, c238, c239, c240, c241, c242, c243, c244, c245, c246, c247, c248, c249, c250, c251, c252, c253, c254, c255, c256, c257, c258, c259, c260, c261, c262, c263, c264, c265, c266, c267, c268, c269, c270, c271, c272, c273, c274, c275, c276, c277, c278, c279, c280, c281, c282], []⟩ w' := by
  refine wp_loop (ShaI (rounds K ch (v, X)) wb w1 pb pq pn pc c0 c2 c3 c5 c6 c7 c8 c9 c10 c11 c12 c29 c30 c31 c32 c33 c34 c35 c36 c37 c38 c39 c40 c41 c42 c43 c44 c45 c46 c47 c48 c49 c50 c51 c52 c53 c54 c55 c56 c57 c58 c59 c60 c61 c62 c63 c64 c65 c66 c67 c68 c69 c70 c71 c72 c73 c74 c75 c76 c77 c78 c79 c217 c218 c219 c220 c221 c222 c223 c224 c225 c226 c227 c228 c229 c230 c231 c232 c233 c234 c235 c236 c237 c238 c239 c240 c241 c242 c243 c244 c245 c246 c247 c248 c249 c250 c251 c252 c253 c254 c255 c256 c257 c258 c259 c260 c261 c262 c263 c264 c265 c266 c267 c268 c269 c270 c271 c272 c273 c274 c275 c276 c277 c278 c279 c280 c281 c282) ShaMu ?_ (fun a w'' hI => sha_round K ch (v, X) wb w1 pb pq pn pc Q0 c0 c2 c3 c5 c6 c7 c8 c9 c10 c11 c12 c29 c30 c31 c32 c33 c34 c35 c36 c37 c38 c39 c40 c41 c42 c43 c44 c45 c46 c47 c48 c49 c50 c51 c52 c53 c54 c55 c56 c57 c58 c59 c60 c61 c62 c63 c64 c65 c66 c67 c68 c69 c70 c71 c72 c73 c74 c75 c76 c77 c78 c79 c217 c218 c219 c220 c221 c222 c223 c224 c225 c226 c227 c228 c229 c230 c231 c232 c233 c234 c235 c236 c237 c238 c239 c240 c241 c242 c243 c244 c245 c246 c247 c248 c249 c250 c251 c252 c253 c254 c255 c256 c257 c258 c259 c260 c261 c262 c263 c264 c265 c266 c267 c268 c269 c270 c271 c272 c273 c274 c275 c276 c277 c278 c279 c280 c281 c282 hl hpn hch hkb hx a w'' hI)
  unfold ShaI
  exact ⟨0, ⟨by omega, hb, hfr⟩, u21, u22, u23, u24, u25, u26, u27, u28, u81, u82, u83, u84, u85, u86, u87, u88, u89, u90, u91, u92, u93, u94, u95, u96, u97, u98, u99, u100, u101, u102, u103, u104, u105, u106, u107, u108, u109, u110, u111, u112, u113, u114, u115, u116, u117, u118, u119, u120, u121, u122, u123, u124, u125, u126, u127, u128, u129, u130, u131, u132, u133, u134, u135, u136, u137, u138, u139, u140, u141, u142, u143, u144, u145, u146, u147, u148, u149, u150, u151, u152, u153, u154, u155, u156, u157, u158, u159, u160, u161, u162, u163, u164, u165, u166, u167, u168, u169, u170, u171, u172, u173, u174, u175, u176, u177, u178, u179, u180, u181, u182, u183, u184, u185, u186, u187, u188, u189, u190, u191, u192, u193, u194, u195, u196, u197, u198, u199, u200, u201, u202, u203, u204, u205, u206, u207, u208, u209, u210, u211, u212, u213, u214, u215, u216, rfl⟩
set_option maxRecDepth 1000000 in
set_option maxHeartbeats 4000000 in
theorem sha_loopS (K ch : List Int) (v : V8) (X : List Int) (S : Nat → V8 × List Int) (hS : S = rounds K ch (v, X)) (wb : Nat) (w1 : World) (pb pq pn pc : Nat) (Q0 : Exit → Act → World → Prop) (c0 c2 c3 c5 c6 c7 c8 c9 c10 c11 c12 c29 c30 c31 c32 c33 c34 c35 c36 c37 c38 c39 c40 c41 c42 c43 c44 c45 c46 c47 c48 c49 c50 c51 c52 c53 c54 c55 c56 c57 c58 c59 c60 c61 c62 c63 c64 c65 c66 c67 c68 c69 c70 c71 c72 c73 c74 c75 c76 c77 c78 c79 c217 c218 c219 c220 c221 c222 c223 c224 c225 c226 c227 c228 c229 c230 c231 c232 c233 c234 c235 c236 c237 c238 c239 c240 c241 c242 c243 c244 c245 c246 c247 c248 c249 c250 c251 c252 c253 c254 c255 c256 c257 c258 c259 c260 c261 c262 c263 c264 c265 c266 c267 c268 c269 c270 c271 c272 c273 c274 c275 c276 c277 c278 c279 c280 c281 c282 u21 u22 u23 u24 u25 u26 u27 u28 u81 u82 u83 u84 u85 u86 u87 u88 u89 u90 u91 u92 u93 u94 u95 u96 u97 u98 u99 u100 u101 u102 u103 u104 u105 u106 u107 u108 u109 u110 u111 u112 u113 u114 u115 u116 u117 u118 u119 u120 u121 u122 u123 u124 u125 u126 u127 u128 u129 u130 u131 u132 u133 u134 u135 u136 u137 u138 u139 u140 u141 u142 u143 u144 u145 u146 u147 u148 u149 u150 u151 u152 u153 u154 u155 u156 u157 u158 u159 u160 u161 u162 u163 u164 u165 u166 u167 u168 u169 u170 u171 u172 u173 u174 u175 u176 u177 u178 u179 u180 u181 u182 u183 u184 u185 u186 u187 u188 u189 u190 u191 u192 u193 u194 u195 u196 u197 u198 u199 u200 u201 u202 u203 u204 u205 u206 u207 u208 u209 u210 u211 u212 u213 u214 u215 u216 : Value) (w' : World)
    (hl : X.length = 64) (hpn : 64 ≤ pn) (hch : ∀ j, j < 64 → ∀ W, Fr [wb] w1 W → W.cell? ⟨pb, pq + j, none⟩ = some (.int .u8 (ch.getD j 0)))
    (hkb : ∀ k, k < 64 → ∀ W, Fr [wb] w1 W → W.cell? ⟨10, k, none⟩ = some (.int .u32 (K.getD k 0))) (hb : Blk w' wb 250 (X.map (Value.int .u32)).toArray) (hfr : Fr [wb] w1 w')
    (hx : ShaX S wb w1 pb pq pn pc c0 c2 c3 c5 c6 c7 c8 c9 c10 c11 c12 c29 c30 c31 c32 c33 c34 c35 c36 c37 c38 c39 c40 c41 c42 c43 c44 c45 c46 c47 c48 c49 c50 c51 c52 c53 c54 c55 c56 c57 c58 c59 c60 c61 c62 c63 c64 c65 c66 c67 c68 c69 c70 c71 c72 c73 c74 c75 c76 c77 c78 c79 c217 c218 c219 c220 c221 c222 c223 c224 c225 c226 c227 c228 c229 c230 c231 c232 c233 c234 c235 c236 c237 c238 c239 c240 c241 c242 c243 c244 c245 c246 c247 c248 c249 c250 c251 c252 c253 c254 c255 c256 c257 c258 c259 c260 c261 c262 c263 c264 c265 c266 c267 c268 c269 c270 c271 c272 c273 c274 c275 c276 c277 c278 c279 c280 c281 c282 Q0) :
    Code.wp Tryz.prog (.loop shaInner) Q0 ⟨#[c0, .slice (some ⟨pb, pq, none⟩) pn pc, c2, c3, .pointer (some ⟨wb, 0, none⟩), c5, c6, c7, c8, c9, c10, c11, c12, .int .u32 v.a, .int .u32 v.b, .int .u32 v.c, .int .u32 v.d, .int .u32 v.e, .int .u32 v.f, .int .u32 v.g, .int .u32 v.h, u21, u22, u23, u24, u25, u26, u27, u28, c29, c30, c31, c32, c33, c34, c35, c36, c37, c38, c39, c40, c41, c42, c43, c44, c45, c46, c47, c48, c49, c50, c51, c52, c53, c54, c55, c56, c57, c58, c59, c60, c61, c62, c63, c64, c65, c66, c67, c68, c69, c70, c71, c72, c73, c74, c75, c76, c77, c78, c79, .int .i64 0, u81, u82, u83, u84, u85, u86, u87, u88, u89, u90, u91, u92, u93, u94, u95, u96, u97, u98, u99, u100, u101, u102, u103, u104, u105, u106, u107, u108, u109, u110, u111, u112, u113, u114, u115, u116, u117, u118, u119, u120, u121, u122, u123, u124, u125, u126, u127, u128, u129, u130, u131, u132, u133, u134, u135, u136, u137, u138, u139, u140, u141, u142, u143, u144, u145, u146, u147, u148, u149, u150, u151, u152, u153, u154, u155, u156, u157, u158, u159, u160, u161, u162, u163, u164, u165, u166, u167, u168, u169, u170, u171, u172, u173, u174, u175, u176, u177, u178, u179, u180, u181, u182, u183, u184, u185, u186, u187, u188, u189, u190, u191, u192, u193, u194, u195, u196, u197, u198, u199, u200, u201, u202, u203, u204, u205, u206, u207, u208, u209, u210, u211, u212, u213, u214, u215, u216, c217, c218, c219, c220, c221, c222, c223, c224, c225, c226, c227, c228, c229, c230, c231, c232, c233, c234, c235, c236, c237, c238, c239, c240, c241, c242, c243, c244, c245, c246, c247, c248, c249, c250, c251, c252, c253, c254, c255, c256, c257, c258, c259, c260, c261, c262, c263, c264, c265, c266, c267, c268, c269, c270, c271, c272, c273, c274, c275, c276, c277, c278, c279, c280, c281, c282], []⟩ w' := by
  subst hS
  exact sha_loop K ch v X wb w1 pb pq pn pc Q0 c0 c2 c3 c5 c6 c7 c8 c9 c10 c11 c12 c29 c30 c31 c32 c33 c34 c35 c36 c37 c38 c39 c40 c41 c42 c43 c44 c45 c46 c47 c48 c49 c50 c51 c52 c53 c54 c55 c56 c57 c58 c59 c60 c61 c62 c63 c64 c65 c66 c67 c68 c69 c70 c71 c72 c73 c74 c75 c76 c77 c78 c79 c217 c218 c219 c220 c221 c222 c223 c224 c225 c226 c227 c228 c229 c230 c231 c232 c233 c234 c235 c236 c237 c238 c239 c240 c241 c242 c243 c244 c245 c246 c247 c248 c249 c250 c251 c252 c253 c254 c255 c256 c257 c258 c259 c260 c261 c262 c263 c264 c265 c266 c267 c268 c269 c270 c271 c272 c273 c274 c275 c276 c277 c278 c279 c280 c281 c282 u21 u22 u23 u24 u25 u26 u27 u28 u81 u82 u83 u84 u85 u86 u87 u88 u89 u90 u91 u92 u93 u94 u95 u96 u97 u98 u99 u100 u101 u102 u103 u104 u105 u106 u107 u108 u109 u110 u111 u112 u113 u114 u115 u116 u117 u118 u119 u120 u121 u122 u123 u124 u125 u126 u127 u128 u129 u130 u131 u132 u133 u134 u135 u136 u137 u138 u139 u140 u141 u142 u143 u144 u145 u146 u147 u148 u149 u150 u151 u152 u153 u154 u155 u156 u157 u158 u159 u160 u161 u162 u163 u164 u165 u166 u167 u168 u169 u170 u171 u172 u173 u174 u175 u176 u177 u178 u179 u180 u181 u182 u183 u184 u185 u186 u187 u188 u189 u190 u191 u192 u193 u194 u195 u196 u197 u198 u199 u200 u201 u202 u203 u204 u205 u206 u207 u208 u209 u210 u211 u212 u213 u214 u215 u216 w' hl hpn hch hkb hb hfr hx
end Go.Proofs.YtedjadicdodahaaGreatDoor

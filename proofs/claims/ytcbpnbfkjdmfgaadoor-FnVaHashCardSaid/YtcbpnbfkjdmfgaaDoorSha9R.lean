/- The last stores of a block of SHA-512, in whatever order, walked. No condition. -/
import Derived.Test.YtcbpnbfkjdmfgaaDoorSha8
import Derived.RegionTactic
import Derived.BigRegion
set_option linter.unusedVariables false
namespace Go.Proofs.YtcbpnbfkjdmfgaaDoor.Sha
open Go.ChangeShapes Go.WideShapes Go.ChangeAt Go.RowKit
open Go.Proofs.YtcbpnbfkjdmfgaaDoor.Dig Go.Proofs.YtcbpnbfkjdmfgaaDoor.Mem Go.Proofs.YtcbpnbfkjdmfgaaDoor.Rb

/-- The region of a number in a body. -/
def region? (n : Nat) : Code → Option Code
  | .region id ops b => if id = n then some (.region id ops b) else none
  | .seq a b => match region? n a with
    | some c => some c
    | none => region? n b
  | .cond _ a b => match region? n a with
    | some c => some c
    | none => region? n b
  | .block _ c => region? n c
  | .scope c => region? n c
  | .loop c => region? n c
  | _ => none
noncomputable def code35 : Code := ((Tryd.f35.body.bind (region? 35)).getD .skip)

set_option maxRecDepth 1000000 in
set_option maxHeartbeats 0 in
theorem end35 (w : World) (g : Nat) (s : S8) (x : List Nat) (nx len : Int) (D : Dg w g s.list x nx len) (va vb vc vd ve vf vg vh : Int) (z1 z2 z3 z4 z13 z14 z15 z16 z17 z18 z19 z20 z21 z22 z23 z24 z25 z26 z27 z28 z29 z30 z31 z32 z33 z34 z35 z36 z37 z38 z39 z40 z41 z42 z43 z44 z45 z46 z47 z48 z49 z50 z51 z52 z53 z54 z55 z56 z57 z58 z59 z60 z61 z62 z63 z64 z65 z66 z67 z68 z69 z70 z71 z72 z73 z74 z75 z76 z77 z78 z79 z80 z81 z82 z83 z84 z85 z86 z87 z88 z89 z90 z91 z92 z93 z94 z95 z96 z97 z98 z99 z100 z101 z102 z103 z104 z105 z106 z107 z108 z109 z110 z111 z112 z113 z114 z115 z116 z117 z118 z119 z120 z121 z122 z123 z124 z125 z126 z127 z128 z129 z130 z131 z132 z133 z134 z135 z136 z137 z138 z139 z140 z141 z142 z143 z144 z145 z146 z147 z148 z149 z150 z151 z152 z153 z154 z155 z156 z157 z158 z159 z160 z161 z162 z163 z164 z165 z166 z167 z168 z169 z170 z171 z172 z173 z174 z175 z176 z177 z178 z179 z180 z181 z182 z183 z184 z185 z186 z187 z188 z189 z190 z191 z192 z193 z194 z195 z196 z197 z198 z199 z200 z201 z202 z203 z204 z205 z206 z207 z208 z209 z210 z211 z212 z213 z214 z215 z216 z217 z218 z219 z220 z221 z222 z223 z224 z225 z226 z227 z228 z229 z230 z231 z232 z233 z234 z235 z236 z237 z238 z239 z240 z241 z242 z243 z244 z245 z246 z247 z248 z249 z250 z251 z252 z253 z254 z255 z256 z257 z258 z259 z260 z261 z262 z263 z264 z265 z266 z267 z268 z269 z270 z271 z272 z273 z274 z275 z276 z277 z278 z279 z280 z281 z282 z283 z284 z285 z286 z287 z288 z289 z290 z291 z292 z293 z294 z295 z296 z297 z298 z299 z300 z301 z302 z303 z304 z305 z306 z307 z308 z309 z310 z311 z312 z313 z314 : Value) :
    Code.wp Tryd.prog code35 (fun e a' w' => e = .normal ∧ a'.defers = [] ∧ w' = ((((((((w.setCell ⟨g, 0, none⟩ (.int .u64 va)).setCell ⟨g, 1, none⟩ (.int .u64 vb)).setCell ⟨g, 2, none⟩ (.int .u64 vc)).setCell ⟨g, 3, none⟩ (.int .u64 vd)).setCell ⟨g, 4, none⟩ (.int .u64 ve)).setCell ⟨g, 5, none⟩ (.int .u64 vf)).setCell ⟨g, 6, none⟩ (.int .u64 vg)).setCell ⟨g, 7, none⟩ (.int .u64 vh)).drew) ⟨#[.pointer (some ⟨g, 0, none⟩), z1, z2, z3, z4, .int .u64 va, .int .u64 vb, .int .u64 vc, .int .u64 vd, .int .u64 ve, .int .u64 vf, .int .u64 vg, .int .u64 vh, z13, z14, z15, z16, z17, z18, z19, z20, z21, z22, z23, z24, z25, z26, z27, z28, z29, z30, z31, z32, z33, z34, z35, z36, z37, z38, z39, z40, z41, z42, z43, z44, z45, z46, z47, z48, z49, z50, z51, z52, z53, z54, z55, z56, z57, z58, z59, z60, z61, z62, z63, z64, z65, z66, z67, z68, z69, z70, z71, z72, z73, z74, z75, z76, z77, z78, z79, z80, z81, z82, z83, z84, z85, z86, z87, z88, z89, z90, z91, z92, z93, z94, z95, z96, z97, z98, z99, z100, z101, z102, z103, z104, z105, z106, z107, z108, z109, z110, z111, z112, z113, z114, z115, z116, z117, z118, z119, z120, z121, z122, z123, z124, z125, z126, z127, z128, z129, z130, z131, z132, z133, z134, z135, z136, z137, z138, z139, z140, z141, z142, z143, z144, z145, z146, z147, z148, z149, z150, z151, z152, z153, z154, z155, z156, z157, z158, z159, z160, z161, z162, z163, z164, z165, z166, z167, z168, z169, z170, z171, z172, z173, z174, z175, z176, z177, z178, z179, z180, z181, z182, z183, z184, z185, z186, z187, z188, z189, z190, z191, z192, z193, z194, z195, z196, z197, z198, z199, z200, z201, z202, z203, z204, z205, z206, z207, z208, z209, z210, z211, z212, z213, z214, z215, z216, z217, z218, z219, z220, z221, z222, z223, z224, z225, z226, z227, z228, z229, z230, z231, z232, z233, z234, z235, z236, z237, z238, z239, z240, z241, z242, z243, z244, z245, z246, z247, z248, z249, z250, z251, z252, z253, z254, z255, z256, z257, z258, z259, z260, z261, z262, z263, z264, z265, z266, z267, z268, z269, z270, z271, z272, z273, z274, z275, z276, z277, z278, z279, z280, z281, z282, z283, z284, z285, z286, z287, z288, z289, z290, z291, z292, z293, z294, z295, z296, z297, z298, z299, z300, z301, z302, z303, z304, z305, z306, z307, z308, z309, z310, z311, z312, z313, z314], []⟩ w := by
  conv => arg 2; whnf
  have q0 := D.h_at (i := 0) (by omega)
  have q1 := D.h_at (i := 1) (by omega)
  have q2 := D.h_at (i := 2) (by omega)
  have q3 := D.h_at (i := 3) (by omega)
  have q4 := D.h_at (i := 4) (by omega)
  have q5 := D.h_at (i := 5) (by omega)
  have q6 := D.h_at (i := 6) (by omega)
  have q7 := D.h_at (i := 7) (by omega)
  have r0 := D.free 0
  have r1 := D.free 1
  have r2 := D.free 2
  have r3 := D.free 3
  have r4 := D.free 4
  have r5 := D.free 5
  have r6 := D.free 6
  have r7 := D.free 7
  clear D
  go_region
  exact ⟨rfl, rfl, rfl⟩
end Go.Proofs.YtcbpnbfkjdmfgaaDoor.Sha

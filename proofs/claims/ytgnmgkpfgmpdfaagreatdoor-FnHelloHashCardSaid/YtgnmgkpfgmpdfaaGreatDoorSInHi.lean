/- sha256.blockGeneric: a later round of the inner loop. -/
import Derived.Test.YtgnmgkpfgmpdfaaGreatDoorSInAct
import Derived.LoopTactic
import Derived.BigQuiet
import Derived.StillTailTactics
set_option linter.unusedVariables false
set_option linter.unusedSimpArgs false
namespace Go.Proofs.YtgnmgkpfgmpdfaaGreatDoor
open Go.RowKit

set_option maxHeartbeats 0 in
set_option maxRecDepth 1000000 in
theorem round_hi (g b off nn cc B k : Nat) (h0 h1 h2 h3 h4 h5 h6 h7 s0 s1 s2 s3 s4 s5 s6 s7 : Int) (u2 u3 u21 u22 u23 u24 u25 u26 u27 u28 u29 u30 u31 u32 u33 u34 u35 u36 u37 u38 u39 u40 u41 u42 u43 u44 u45 u46 u47 u48 u49 u50 u51 u52 u53 u54 u55 u56 u57 u58 u59 u60 u61 u62 u63 u64 u65 u66 u67 u68 u69 u70 u71 u72 u73 u74 u75 u76 u77 u78 u79 u81 u82 u83 u84 u85 u86 u87 u88 u89 u90 u91 u92 u93 u94 u95 u96 u97 u98 u99 u100 u101 u102 u103 u104 u105 u106 u107 u108 u109 u110 u111 u112 u113 u114 u115 u116 u117 u118 u119 u120 u121 u122 u123 u124 u125 u126 u127 u128 u129 u130 u131 u132 u133 u134 u135 u136 u137 u138 u139 u140 u141 u142 u143 u144 u145 u146 u147 u148 u149 u150 u151 u152 u153 u154 u155 u156 u157 u158 u159 u160 u161 u162 u163 u164 u165 u166 u167 u168 u169 u170 u171 u172 u173 u174 u175 u176 u177 u178 u179 u180 u181 u182 u183 u184 u185 u186 u187 u188 u189 u190 u191 u192 u193 u194 u195 u196 u197 u198 u199 u200 u201 u202 u203 u204 u205 u206 u207 u208 u209 u210 u211 u212 u213 u214 u215 u216 u217 u218 u219 u220 u221 u222 u223 u224 u225 u226 u227 u228 u229 u230 u231 u232 u233 u234 u235 u236 u237 u238 u239 u240 u241 u242 u243 u244 u245 u246 u247 u248 u249 u250 u251 u252 u253 u254 u255 u256 u257 u258 u259 u260 u261 u262 u263 u264 u265 u266 u267 u268 u269 u270 u271 u272 u273 u274 u275 u276 u277 u278 u279 u280 u281 u282 : Value) (Q0 : Exit → Act → World → Prop) (w : World)
    (hk : 16 ≤ k) (hk64 : k < 64) (v2 v7 v15 v16 : Int) (r0 : Value) (c2 : w.cell? ⟨B, k - 2, none⟩ = some (.int .u32 v2)) (c7 : w.cell? ⟨B, k - 7, none⟩ = some (.int .u32 v7)) (c15 : w.cell? ⟨B, k - 15, none⟩ = some (.int .u32 v15)) (c16 : w.cell? ⟨B, k - 16, none⟩ = some (.int .u32 v16))
    (kc : Int) (hk4 : w.cell? ⟨4, k, none⟩ = some (.int .u32 kc)) (hB4 : B ≠ 4) (r : w.cell? ⟨B, k, none⟩ = some r0) (f : w.frozen? ⟨B, k, none⟩ = false) :
    Code.wp Tryz.prog inBody (Exit.then (RoundK g b off nn cc B ⟨h0, h1, h2, h3, h4, h5, h6, h7⟩ k (rnd kc (wordHi v2 v7 v15 v16) ⟨s0, s1, s2, s3, s4, s5, s6, s7⟩) (wordHi v2 v7 v15 v16) w) Q0) ⟨#[.pointer (some ⟨g, 0, none⟩), .slice (some ⟨b, off, none⟩) nn cc, u2, u3, .pointer (some ⟨B, 0, none⟩), .int .u32 h0, .int .u32 h1, .int .u32 h2, .int .u32 h3, .int .u32 h4, .int .u32 h5, .int .u32 h6, .int .u32 h7, .int .u32 s0, .int .u32 s1, .int .u32 s2, .int .u32 s3, .int .u32 s4, .int .u32 s5, .int .u32 s6, .int .u32 s7, u21, u22, u23, u24, u25, u26, u27, u28, u29, u30, u31, u32, u33, u34, u35, u36, u37, u38, u39, u40, u41, u42, u43, u44, u45, u46, u47, u48, u49, u50, u51, u52, u53, u54, u55, u56, u57, u58, u59, u60, u61, u62, u63, u64, u65, u66, u67, u68, u69, u70, u71, u72, u73, u74, u75, u76, u77, u78, u79, .int .i64 (k : Int), u81, u82, u83, u84, u85, u86, u87, u88, u89, u90, u91, u92, u93, u94, u95, u96, u97, u98, u99, u100, u101, u102, u103, u104, u105, u106, u107, u108, u109, u110, u111, u112, u113, u114, u115, u116, u117, u118, u119, u120, u121, u122, u123, u124, u125, u126, u127, u128, u129, u130, u131, u132, u133, u134, u135, u136, u137, u138, u139, u140, u141, u142, u143, u144, u145, u146, u147, u148, u149, u150, u151, u152, u153, u154, u155, u156, u157, u158, u159, u160, u161, u162, u163, u164, u165, u166, u167, u168, u169, u170, u171, u172, u173, u174, u175, u176, u177, u178, u179, u180, u181, u182, u183, u184, u185, u186, u187, u188, u189, u190, u191, u192, u193, u194, u195, u196, u197, u198, u199, u200, u201, u202, u203, u204, u205, u206, u207, u208, u209, u210, u211, u212, u213, u214, u215, u216, u217, u218, u219, u220, u221, u222, u223, u224, u225, u226, u227, u228, u229, u230, u231, u232, u233, u234, u235, u236, u237, u238, u239, u240, u241, u242, u243, u244, u245, u246, u247, u248, u249, u250, u251, u252, u253, u254, u255, u256, u257, u258, u259, u260, u261, u262, u263, u264, u265, u266, u267, u268, u269, u270, u271, u272, u273, u274, u275, u276, u277, u278, u279, u280, u281, u282], []⟩ w := by
  conv => arg 2; whnf
  have n16 : ¬ (k : Int) < 16 := by omega
  have j2 : (0 : Int) ≤ (k : Int) - 2 := by omega
  have i2 : (k : Int) - 2 < 64 := by omega
  have m2 : IntKind.i64.wrap ((k : Int) - 2) = (k : Int) - 2 := by rw [IntKind.wrap_i64]; omega
  have t2 : ((k : Int) - 2).toNat = k - 2 := by omega
  have a2 : (2 : Int) ≤ k := by omega
  have b2 : (k : Int) < 64 + 2 := by omega
  have q2 : (k : Int) < 66 := by omega
  have j7 : (0 : Int) ≤ (k : Int) - 7 := by omega
  have i7 : (k : Int) - 7 < 64 := by omega
  have m7 : IntKind.i64.wrap ((k : Int) - 7) = (k : Int) - 7 := by rw [IntKind.wrap_i64]; omega
  have t7 : ((k : Int) - 7).toNat = k - 7 := by omega
  have a7 : (7 : Int) ≤ k := by omega
  have b7 : (k : Int) < 64 + 7 := by omega
  have q7 : (k : Int) < 71 := by omega
  have j15 : (0 : Int) ≤ (k : Int) - 15 := by omega
  have i15 : (k : Int) - 15 < 64 := by omega
  have m15 : IntKind.i64.wrap ((k : Int) - 15) = (k : Int) - 15 := by rw [IntKind.wrap_i64]; omega
  have t15 : ((k : Int) - 15).toNat = k - 15 := by omega
  have a15 : (15 : Int) ≤ k := by omega
  have b15 : (k : Int) < 64 + 15 := by omega
  have q15 : (k : Int) < 79 := by omega
  have j16 : (0 : Int) ≤ (k : Int) - 16 := by omega
  have i16 : (k : Int) - 16 < 64 := by omega
  have m16 : IntKind.i64.wrap ((k : Int) - 16) = (k : Int) - 16 := by rw [IntKind.wrap_i64]; omega
  have t16 : ((k : Int) - 16).toNat = k - 16 := by omega
  have a16 : (16 : Int) ≤ k := by omega
  have b16 : (k : Int) < 64 + 16 := by omega
  have q16 : (k : Int) < 80 := by omega
  have k64 : (k : Int) < 64 := by omega
  go_wp2_with fail
  refine (rot17 _ _).mono ?_
  rintro e W1 ⟨rfl, hW⟩
  rw [hW]
  clear hW W1
  go_wp2_with fail
  refine (rot19 _ _).mono ?_
  rintro e W1 ⟨rfl, hW⟩
  rw [hW]
  clear hW W1
  go_wp2_with fail
  refine (rot7 _ _).mono ?_
  rintro e W1 ⟨rfl, hW⟩
  rw [hW]
  clear hW W1
  go_wp2_with fail
  refine (rot18 _ _).mono ?_
  rintro e W1 ⟨rfl, hW⟩
  rw [hW]
  clear hW W1
  go_wp2_with fail
  go_still_tail 15, (by kernel_rfl)
  change wpList _ _ _ _ _ w.drew
  clear c2 c7 c15 c16 a2 a7 a15 a16 b2 b7 b15 b16 q2 q7 q15 q16 j2 j7 j15 j16 i2 i7 i15 i16 m2 m7 m15 m16 t2 t7 t15 t16
  go_wp2_with fail
  have xr : (w.setCell ⟨B, k, none⟩ (.int .u32 (wordHi v2 v7 v15 v16))).drew.cell? ⟨B, k, none⟩ = some (.int .u32 (wordHi v2 v7 v15 v16)) := World.cell?_setCell_same w ⟨B, k, none⟩ (.int .u32 (wordHi v2 v7 v15 v16)) r
  have xk : (w.setCell ⟨B, k, none⟩ (.int .u32 (wordHi v2 v7 v15 v16))).drew.cell? ⟨4, k, none⟩ = some (.int .u32 kc) := cell_far hk4 hB4 _
  change Code.wp _ _ _ _ (w.setCell ⟨B, k, none⟩ (.int .u32 (wordHi v2 v7 v15 v16))).drew
  clear r f hk4
  generalize hX : World.drew (w.setCell ⟨B, k, none⟩ (.int .u32 (wordHi v2 v7 v15 v16))) = X at xr xk ⊢
  generalize hV : wordHi v2 v7 v15 v16 = v at xr xk hX ⊢
  have HX := Lib.hid hX
  have HV := Lib.hid hV
  clear hX hV
  refine wp_region_still_lit (by kernel_rfl) (by kernel_rfl) ?_
  iterate 2 still_step
  still_call (rot6 _ _)
  iterate 1 still_step
  still_call (rot11 _ _)
  iterate 2 still_step
  still_call (rot25 _ _)
  repeat still_step
  try refine wpStill_nil ?_
  change Exit.then _ _ _ _ (World.drew X)
  clear xr xk
  generalize hY : World.drew X = Y
  have HY := Lib.hid hY
  clear hY
  generalize hT : IntKind.u32.wrap (IntKind.u32.wrap (IntKind.u32.wrap (IntKind.u32.wrap (s7 + bits .xor .u32 (bits .xor .u32 (ror 67108864 64 s4) (ror 2097152 2048 s4)) (ror 128 33554432 s4)) + bits .xor .u32 (bits .and .u32 s4 s5) (bits .and .u32 (bits .xor .u32 (if IntKind.u32.signed = true then -1 else IntKind.u32.max) s4) s6)) + kc) + v) = t1
  have HT := Lib.hid hT
  clear hT
  go_wp2_with fail
  refine (rot2 _ _).mono ?_
  rintro e w5 ⟨rfl, rfl⟩
  go_wp2_with fail
  refine (rot13 _ _).mono ?_
  rintro e w6 ⟨rfl, rfl⟩
  go_wp2_with fail
  refine (rot22 _ _).mono ?_
  rintro e w7 ⟨rfl, rfl⟩
  go_wp2_with fail
  have hy := HY.out
  have hx := HX.out
  have hv := HV.out
  have ht := HT.out
  clear HY HX HV HT
  subst hy
  subst hx
  subst ht
  subst hv
  exact ⟨⟨rfl, rfl, rfl, rfl, rfl, rfl, rfl, rfl, rfl, rfl, rfl, rfl, rfl, rfl, rfl, rfl, rfl, rfl, rfl, rfl, rfl,  rfl⟩, rfl⟩
end Go.Proofs.YtgnmgkpfgmpdfaaGreatDoor

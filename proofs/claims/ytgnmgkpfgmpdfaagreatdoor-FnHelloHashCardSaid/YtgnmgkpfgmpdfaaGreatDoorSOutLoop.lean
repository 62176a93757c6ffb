/- sha256.blockGeneric: the outer loop's round. -/
import Derived.Test.YtgnmgkpfgmpdfaaGreatDoorSInLoop
import Derived.LoopTactic
import Derived.BigQuiet
set_option linter.unusedVariables false
set_option linter.unusedSimpArgs false
section
namespace Go.Proofs.YtgnmgkpfgmpdfaaGreatDoor
open Go.RowKit

/-- The frame at the outer loop's head. -/
structure OutAct (g b off nn cc B : Nat) (h : St8) (a : Act) : Prop where
  df : a.defers = []
  sz : a.tmps.size = 283
  e0 : a.tmps.getD 0 undef = .pointer (some ⟨g, 0, none⟩)
  e1 : a.tmps.getD 1 undef = .slice (some ⟨b, off, none⟩) nn cc
  e4 : a.tmps.getD 4 undef = .pointer (some ⟨B, 0, none⟩)
  e5 : a.tmps.getD 5 undef = .int .u32 h.a
  e6 : a.tmps.getD 6 undef = .int .u32 h.b
  e7 : a.tmps.getD 7 undef = .int .u32 h.c
  e8 : a.tmps.getD 8 undef = .int .u32 h.d
  e9 : a.tmps.getD 9 undef = .int .u32 h.e
  e10 : a.tmps.getD 10 undef = .int .u32 h.f
  e11 : a.tmps.getD 11 undef = .int .u32 h.g
  e12 : a.tmps.getD 12 undef = .int .u32 h.h
set_option maxRecDepth 1000000 in
theorem OutAct.elim {g b off nn cc B : Nat} {h : St8} {C : Act → Prop} (H : ∀ (u2 u3 u13 u14 u15 u16 u17 u18 u19 u20 u21 u22 u23 u24 u25 u26 u27 u28 u29 u30 u31 u32 u33 u34 u35 u36 u37 u38 u39 u40 u41 u42 u43 u44 u45 u46 u47 u48 u49 u50 u51 u52 u53 u54 u55 u56 u57 u58 u59 u60 u61 u62 u63 u64 u65 u66 u67 u68 u69 u70 u71 u72 u73 u74 u75 u76 u77 u78 u79 u80 u81 u82 u83 u84 u85 u86 u87 u88 u89 u90 u91 u92 u93 u94 u95 u96 u97 u98 u99 u100 u101 u102 u103 u104 u105 u106 u107 u108 u109 u110 u111 u112 u113 u114 u115 u116 u117 u118 u119 u120 u121 u122 u123 u124 u125 u126 u127 u128 u129 u130 u131 u132 u133 u134 u135 u136 u137 u138 u139 u140 u141 u142 u143 u144 u145 u146 u147 u148 u149 u150 u151 u152 u153 u154 u155 u156 u157 u158 u159 u160 u161 u162 u163 u164 u165 u166 u167 u168 u169 u170 u171 u172 u173 u174 u175 u176 u177 u178 u179 u180 u181 u182 u183 u184 u185 u186 u187 u188 u189 u190 u191 u192 u193 u194 u195 u196 u197 u198 u199 u200 u201 u202 u203 u204 u205 u206 u207 u208 u209 u210 u211 u212 u213 u214 u215 u216 u217 u218 u219 u220 u221 u222 u223 u224 u225 u226 u227 u228 u229 u230 u231 u232 u233 u234 u235 u236 u237 u238 u239 u240 u241 u242 u243 u244 u245 u246 u247 u248 u249 u250 u251 u252 u253 u254 u255 u256 u257 u258 u259 u260 u261 u262 u263 u264 u265 u266 u267 u268 u269 u270 u271 u272 u273 u274 u275 u276 u277 u278 u279 u280 u281 u282 : Value), C ⟨#[.pointer (some ⟨g, 0, none⟩), .slice (some ⟨b, off, none⟩) nn cc, u2, u3, .pointer (some ⟨B, 0, none⟩), .int .u32 h.a, .int .u32 h.b, .int .u32 h.c, .int .u32 h.d, .int .u32 h.e, .int .u32 h.f, .int .u32 h.g, .int .u32 h.h, u13, u14, u15, u16, u17, u18, u19, u20, u21, u22, u23, u24, u25, u26, u27, u28, u29, u30, u31, u32, u33, u34, u35, u36, u37, u38, u39, u40, u41, u42, u43, u44, u45, u46, u47, u48, u49, u50, u51, u52, u53, u54, u55, u56, u57, u58, u59, u60, u61, u62, u63, u64, u65, u66, u67, u68, u69, u70, u71, u72, u73, u74, u75, u76, u77, u78, u79, u80, u81, u82, u83, u84, u85, u86, u87, u88, u89, u90, u91, u92, u93, u94, u95, u96, u97, u98, u99, u100, u101, u102, u103, u104, u105, u106, u107, u108, u109, u110, u111, u112, u113, u114, u115, u116, u117, u118, u119, u120, u121, u122, u123, u124, u125, u126, u127, u128, u129, u130, u131, u132, u133, u134, u135, u136, u137, u138, u139, u140, u141, u142, u143, u144, u145, u146, u147, u148, u149, u150, u151, u152, u153, u154, u155, u156, u157, u158, u159, u160, u161, u162, u163, u164, u165, u166, u167, u168, u169, u170, u171, u172, u173, u174, u175, u176, u177, u178, u179, u180, u181, u182, u183, u184, u185, u186, u187, u188, u189, u190, u191, u192, u193, u194, u195, u196, u197, u198, u199, u200, u201, u202, u203, u204, u205, u206, u207, u208, u209, u210, u211, u212, u213, u214, u215, u216, u217, u218, u219, u220, u221, u222, u223, u224, u225, u226, u227, u228, u229, u230, u231, u232, u233, u234, u235, u236, u237, u238, u239, u240, u241, u242, u243, u244, u245, u246, u247, u248, u249, u250, u251, u252, u253, u254, u255, u256, u257, u258, u259, u260, u261, u262, u263, u264, u265, u266, u267, u268, u269, u270, u271, u272, u273, u274, u275, u276, u277, u278, u279, u280, u281, u282], []⟩) {a : Act} (hA : OutAct g b off nn cc B h a) : C a := by
  obtain ⟨t, df⟩ := a
  obtain ⟨d, sz, e0, e1, e4, e5, e6, e7, e8, e9, e10, e11, e12⟩ := hA
  simp only at d sz e0 e1 e4 e5 e6 e7 e8 e9 e10 e11 e12
  subst d
  have e := frame283 t sz
  rw [e0, e1, e4, e5, e6, e7, e8, e9, e10, e11, e12] at e
  rw [e]
  exact H _ _ _ _ _ _ _ _ _ _ _ _ _ _ _ _ _ _ _ _ _ _ _ _ _ _ _ _ _ _ _ _ _ _ _ _ _ _ _ _ _ _ _ _ _ _ _ _ _ _ _ _ _ _ _ _ _ _ _ _ _ _ _ _ _ _ _ _ _ _ _ _ _ _ _ _ _ _ _ _ _ _ _ _ _ _ _ _ _ _ _ _ _ _ _ _ _ _ _ _ _ _ _ _ _ _ _ _ _ _ _ _ _ _ _ _ _ _ _ _ _ _ _ _ _ _ _ _ _ _ _ _ _ _ _ _ _ _ _ _ _ _ _ _ _ _ _ _ _ _ _ _ _ _ _ _ _ _ _ _ _ _ _ _ _ _ _ _ _ _ _ _ _ _ _ _ _ _ _ _ _ _ _ _ _ _ _ _ _ _ _ _ _ _ _ _ _ _ _ _ _ _ _ _ _ _ _ _ _ _ _ _ _ _ _ _ _ _ _ _ _ _ _ _ _ _ _ _ _ _ _ _ _ _ _ _ _ _ _ _ _ _ _ _ _ _ _ _ _ _ _ _ _ _ _ _ _ _ _ _ _ _ _ _ _ _ _ _ _ _ _ _
/-- What a round leaves. -/
def OutK (g b off nn cc B : Nat) (h : St8) (w0 : World) (a : Act) (w1 : World) : Prop := ∃ off2, OutAct g b off2 (nn - 64) (cc - 64) B h a ∧ (cc ≠ 64 → off2 = off + 64) ∧ InMem w0 B (fun _ => 0) 0 w1
theorem InMem.zero {w0 w : World} {B k : Nat} {m m1 : Nat → Int} (h : InMem w0 B m k w) : InMem w0 B m1 0 w := by
  obtain ⟨⟨cs, hb, hs, _⟩, hc⟩ := h
  exact ⟨⟨cs, hb, hs, fun j hj => by omega⟩, hc⟩
set_option maxHeartbeats 0 in
set_option maxRecDepth 1000000 in
theorem out_round (g b off nn cc B : Nat) (h : St8) (d : Nat → UInt8) (o : Nat) (w0 w : World) (hn : 64 ≤ nn) (hcc : nn ≤ cc) (hn1 : cc ≤ 9223372036854775807) (hdat : ∀ j, j < 64 → w0.cell? ⟨b, off + j, none⟩ = some (.int .u8 ((d (o + j)).toNat : Int)))
    (hK : ∀ j, j < 64 → w0.cell? ⟨4, j, none⟩ = some (.int .u32 (Kc.getD j 0))) (hB4 : B ≠ 4) (hbB : b ≠ B) (hM : InMem w0 B (fun _ => 0) 0 w) (Q0 : Exit → Act → World → Prop) (u2 u3 u13 u14 u15 u16 u17 u18 u19 u20 u21 u22 u23 u24 u25 u26 u27 u28 u29 u30 u31 u32 u33 u34 u35 u36 u37 u38 u39 u40 u41 u42 u43 u44 u45 u46 u47 u48 u49 u50 u51 u52 u53 u54 u55 u56 u57 u58 u59 u60 u61 u62 u63 u64 u65 u66 u67 u68 u69 u70 u71 u72 u73 u74 u75 u76 u77 u78 u79 u80 u81 u82 u83 u84 u85 u86 u87 u88 u89 u90 u91 u92 u93 u94 u95 u96 u97 u98 u99 u100 u101 u102 u103 u104 u105 u106 u107 u108 u109 u110 u111 u112 u113 u114 u115 u116 u117 u118 u119 u120 u121 u122 u123 u124 u125 u126 u127 u128 u129 u130 u131 u132 u133 u134 u135 u136 u137 u138 u139 u140 u141 u142 u143 u144 u145 u146 u147 u148 u149 u150 u151 u152 u153 u154 u155 u156 u157 u158 u159 u160 u161 u162 u163 u164 u165 u166 u167 u168 u169 u170 u171 u172 u173 u174 u175 u176 u177 u178 u179 u180 u181 u182 u183 u184 u185 u186 u187 u188 u189 u190 u191 u192 u193 u194 u195 u196 u197 u198 u199 u200 u201 u202 u203 u204 u205 u206 u207 u208 u209 u210 u211 u212 u213 u214 u215 u216 u217 u218 u219 u220 u221 u222 u223 u224 u225 u226 u227 u228 u229 u230 u231 u232 u233 u234 u235 u236 u237 u238 u239 u240 u241 u242 u243 u244 u245 u246 u247 u248 u249 u250 u251 u252 u253 u254 u255 u256 u257 u258 u259 u260 u261 u262 u263 u264 u265 u266 u267 u268 u269 u270 u271 u272 u273 u274 u275 u276 u277 u278 u279 u280 u281 u282 : Value) :
    Code.wp Tryz.prog outBody (Exit.then (OutK g b off nn cc B (blk1 d o h) w0) Q0) ⟨#[.pointer (some ⟨g, 0, none⟩), .slice (some ⟨b, off, none⟩) nn cc, u2, u3, .pointer (some ⟨B, 0, none⟩), .int .u32 h.a, .int .u32 h.b, .int .u32 h.c, .int .u32 h.d, .int .u32 h.e, .int .u32 h.f, .int .u32 h.g, .int .u32 h.h, u13, u14, u15, u16, u17, u18, u19, u20, u21, u22, u23, u24, u25, u26, u27, u28, u29, u30, u31, u32, u33, u34, u35, u36, u37, u38, u39, u40, u41, u42, u43, u44, u45, u46, u47, u48, u49, u50, u51, u52, u53, u54, u55, u56, u57, u58, u59, u60, u61, u62, u63, u64, u65, u66, u67, u68, u69, u70, u71, u72, u73, u74, u75, u76, u77, u78, u79, u80, u81, u82, u83, u84, u85, u86, u87, u88, u89, u90, u91, u92, u93, u94, u95, u96, u97, u98, u99, u100, u101, u102, u103, u104, u105, u106, u107, u108, u109, u110, u111, u112, u113, u114, u115, u116, u117, u118, u119, u120, u121, u122, u123, u124, u125, u126, u127, u128, u129, u130, u131, u132, u133, u134, u135, u136, u137, u138, u139, u140, u141, u142, u143, u144, u145, u146, u147, u148, u149, u150, u151, u152, u153, u154, u155, u156, u157, u158, u159, u160, u161, u162, u163, u164, u165, u166, u167, u168, u169, u170, u171, u172, u173, u174, u175, u176, u177, u178, u179, u180, u181, u182, u183, u184, u185, u186, u187, u188, u189, u190, u191, u192, u193, u194, u195, u196, u197, u198, u199, u200, u201, u202, u203, u204, u205, u206, u207, u208, u209, u210, u211, u212, u213, u214, u215, u216, u217, u218, u219, u220, u221, u222, u223, u224, u225, u226, u227, u228, u229, u230, u231, u232, u233, u234, u235, u236, u237, u238, u239, u240, u241, u242, u243, u244, u245, u246, u247, u248, u249, u250, u251, u252, u253, u254, u255, u256, u257, u258, u259, u260, u261, u262, u263, u264, u265, u266, u267, u268, u269, u270, u271, u272, u273, u274, u275, u276, u277, u278, u279, u280, u281, u282], []⟩ w := by
  have HD := Lib.hid hdat
  have HK4 := Lib.hid hK
  clear hdat hK
  have g64 : (64 : Int) ≤ (nn : Int) := by omega
  conv => arg 2; whnf
  go_wp2_with fail
  rename_i K hK
  refine inner g b off nn cc B h d o w0 hn (by omega) HD.out HK4.out hB4 hbB _ (fun a1 w1 hA1 hM1 => ?_) _ _ ⟨rfl, rfl, rfl, rfl, rfl, rfl, rfl, rfl, rfl, rfl, rfl, rfl, rfl, rfl, rfl, rfl, rfl, rfl, rfl, rfl, rfl,  rfl⟩ hM.zero
  change K a1 w1
  refine hK _ _ ?_
  clear hK K hM HD HK4
  generalize hr : rounds (blkWord d o) h 64 = r at hA1
  have HR := Lib.hid hr
  clear hr
  have HM := Lib.hid (hM1.zero (m1 := fun _ => 0))
  clear hM1
  refine hA1.elim (C := fun a => Code.wp Tryz.prog _ _ a w1) ?_
  clear hA1
  clear u2 u3 u13 u14 u15 u16 u17 u18 u19 u20 u21 u22 u23 u24 u25 u26 u27 u28 u29 u30 u31 u32 u33 u34 u35 u36 u37 u38 u39 u40 u41 u42 u43 u44 u45 u46 u47 u48 u49 u50 u51 u52 u53 u54 u55 u56 u57 u58 u59 u60 u61 u62 u63 u64 u65 u66 u67 u68 u69 u70 u71 u72 u73 u74 u75 u76 u77 u78 u79 u80 u81 u82 u83 u84 u85 u86 u87 u88 u89 u90 u91 u92 u93 u94 u95 u96 u97 u98 u99 u100 u101 u102 u103 u104 u105 u106 u107 u108 u109 u110 u111 u112 u113 u114 u115 u116 u117 u118 u119 u120 u121 u122 u123 u124 u125 u126 u127 u128 u129 u130 u131 u132 u133 u134 u135 u136 u137 u138 u139 u140 u141 u142 u143 u144 u145 u146 u147 u148 u149 u150 u151 u152 u153 u154 u155 u156 u157 u158 u159 u160 u161 u162 u163 u164 u165 u166 u167 u168 u169 u170 u171 u172 u173 u174 u175 u176 u177 u178 u179 u180 u181 u182 u183 u184 u185 u186 u187 u188 u189 u190 u191 u192 u193 u194 u195 u196 u197 u198 u199 u200 u201 u202 u203 u204 u205 u206 u207 u208 u209 u210 u211 u212 u213 u214 u215 u216 u217 u218 u219 u220 u221 u222 u223 u224 u225 u226 u227 u228 u229 u230 u231 u232 u233 u234 u235 u236 u237 u238 u239 u240 u241 u242 u243 u244 u245 u246 u247 u248 u249 u250 u251 u252 u253 u254 u255 u256 u257 u258 u259 u260 u261 u262 u263 u264 u265 u266 u267 u268 u269 u270 u271 u272 u273 u274 u275 u276 u277 u278 u279 u280 u281 u282
  intro u2 u3 u21 u22 u23 u24 u25 u26 u27 u28 u29 u30 u31 u32 u33 u34 u35 u36 u37 u38 u39 u40 u41 u42 u43 u44 u45 u46 u47 u48 u49 u50 u51 u52 u53 u54 u55 u56 u57 u58 u59 u60 u61 u62 u63 u64 u65 u66 u67 u68 u69 u70 u71 u72 u73 u74 u75 u76 u77 u78 u79 u81 u82 u83 u84 u85 u86 u87 u88 u89 u90 u91 u92 u93 u94 u95 u96 u97 u98 u99 u100 u101 u102 u103 u104 u105 u106 u107 u108 u109 u110 u111 u112 u113 u114 u115 u116 u117 u118 u119 u120 u121 u122 u123 u124 u125 u126 u127 u128 u129 u130 u131 u132 u133 u134 u135 u136 u137 u138 u139 u140 u141 u142 u143 u144 u145 u146 u147 u148 u149 u150 u151 u152 u153 u154 u155 u156 u157 u158 u159 u160 u161 u162 u163 u164 u165 u166 u167 u168 u169 u170 u171 u172 u173 u174 u175 u176 u177 u178 u179 u180 u181 u182 u183 u184 u185 u186 u187 u188 u189 u190 u191 u192 u193 u194 u195 u196 u197 u198 u199 u200 u201 u202 u203 u204 u205 u206 u207 u208 u209 u210 u211 u212 u213 u214 u215 u216 u217 u218 u219 u220 u221 u222 u223 u224 u225 u226 u227 u228 u229 u230 u231 u232 u233 u234 u235 u236 u237 u238 u239 u240 u241 u242 u243 u244 u245 u246 u247 u248 u249 u250 u251 u252 u253 u254 u255 u256 u257 u258 u259 u260 u261 u262 u263 u264 u265 u266 u267 u268 u269 u270 u271 u272 u273 u274 u275 u276 u277 u278 u279 u280 u281 u282
  have g64n : (nn : Int) - 64 = ((nn - 64 : Nat) : Int) := by omega
  have g64c : (cc : Int) - 64 = ((cc - 64 : Nat) : Int) := by omega
  by_cases hc : cc = 64
  all_goals
    go_wp2_with fail
    have hr := HR.out
    clear HR
    subst hr
  · subst hc
    exact ⟨off, ⟨rfl, rfl, rfl, rfl, rfl, rfl, rfl, rfl, rfl, rfl, rfl, rfl,  rfl⟩, fun h => absurd rfl h, HM.out⟩
  · exact ⟨off + 64, ⟨rfl, rfl, rfl, rfl, rfl, rfl, rfl, rfl, rfl, rfl, rfl, rfl,  rfl⟩, fun _ => rfl, HM.out⟩
end Go.Proofs.YtgnmgkpfgmpdfaaGreatDoor
end

/- sha256.blockGeneric: the outer loop. -/
section
namespace Go.Proofs.YtgnmgkpfgmpdfaaGreatDoor
open Go.RowKit

def OutEnd (g b off nn cc B : Nat) (h : St8) (w : World) (a : Act) (w1 : World) : Prop := OutAct g b off nn cc B h a ∧ w1 = w
set_option maxHeartbeats 0 in
set_option maxRecDepth 1000000 in
theorem out_end (g b off nn cc B : Nat) (h : St8) (w : World) (hn : nn < 64) (K : Act → World → Prop) (Q0 : Exit → Act → World → Prop) (hq : ∀ a1 w1, OutEnd g b off nn cc B h w a1 w1 → Q0 (.exit 0) a1 w1) (u2 u3 u13 u14 u15 u16 u17 u18 u19 u20 u21 u22 u23 u24 u25 u26 u27 u28 u29 u30 u31 u32 u33 u34 u35 u36 u37 u38 u39 u40 u41 u42 u43 u44 u45 u46 u47 u48 u49 u50 u51 u52 u53 u54 u55 u56 u57 u58 u59 u60 u61 u62 u63 u64 u65 u66 u67 u68 u69 u70 u71 u72 u73 u74 u75 u76 u77 u78 u79 u80 u81 u82 u83 u84 u85 u86 u87 u88 u89 u90 u91 u92 u93 u94 u95 u96 u97 u98 u99 u100 u101 u102 u103 u104 u105 u106 u107 u108 u109 u110 u111 u112 u113 u114 u115 u116 u117 u118 u119 u120 u121 u122 u123 u124 u125 u126 u127 u128 u129 u130 u131 u132 u133 u134 u135 u136 u137 u138 u139 u140 u141 u142 u143 u144 u145 u146 u147 u148 u149 u150 u151 u152 u153 u154 u155 u156 u157 u158 u159 u160 u161 u162 u163 u164 u165 u166 u167 u168 u169 u170 u171 u172 u173 u174 u175 u176 u177 u178 u179 u180 u181 u182 u183 u184 u185 u186 u187 u188 u189 u190 u191 u192 u193 u194 u195 u196 u197 u198 u199 u200 u201 u202 u203 u204 u205 u206 u207 u208 u209 u210 u211 u212 u213 u214 u215 u216 u217 u218 u219 u220 u221 u222 u223 u224 u225 u226 u227 u228 u229 u230 u231 u232 u233 u234 u235 u236 u237 u238 u239 u240 u241 u242 u243 u244 u245 u246 u247 u248 u249 u250 u251 u252 u253 u254 u255 u256 u257 u258 u259 u260 u261 u262 u263 u264 u265 u266 u267 u268 u269 u270 u271 u272 u273 u274 u275 u276 u277 u278 u279 u280 u281 u282 : Value) :
    Code.wp Tryz.prog outBody (Exit.then K Q0) ⟨#[.pointer (some ⟨g, 0, none⟩), .slice (some ⟨b, off, none⟩) nn cc, u2, u3, .pointer (some ⟨B, 0, none⟩), .int .u32 h.a, .int .u32 h.b, .int .u32 h.c, .int .u32 h.d, .int .u32 h.e, .int .u32 h.f, .int .u32 h.g, .int .u32 h.h, u13, u14, u15, u16, u17, u18, u19, u20, u21, u22, u23, u24, u25, u26, u27, u28, u29, u30, u31, u32, u33, u34, u35, u36, u37, u38, u39, u40, u41, u42, u43, u44, u45, u46, u47, u48, u49, u50, u51, u52, u53, u54, u55, u56, u57, u58, u59, u60, u61, u62, u63, u64, u65, u66, u67, u68, u69, u70, u71, u72, u73, u74, u75, u76, u77, u78, u79, u80, u81, u82, u83, u84, u85, u86, u87, u88, u89, u90, u91, u92, u93, u94, u95, u96, u97, u98, u99, u100, u101, u102, u103, u104, u105, u106, u107, u108, u109, u110, u111, u112, u113, u114, u115, u116, u117, u118, u119, u120, u121, u122, u123, u124, u125, u126, u127, u128, u129, u130, u131, u132, u133, u134, u135, u136, u137, u138, u139, u140, u141, u142, u143, u144, u145, u146, u147, u148, u149, u150, u151, u152, u153, u154, u155, u156, u157, u158, u159, u160, u161, u162, u163, u164, u165, u166, u167, u168, u169, u170, u171, u172, u173, u174, u175, u176, u177, u178, u179, u180, u181, u182, u183, u184, u185, u186, u187, u188, u189, u190, u191, u192, u193, u194, u195, u196, u197, u198, u199, u200, u201, u202, u203, u204, u205, u206, u207, u208, u209, u210, u211, u212, u213, u214, u215, u216, u217, u218, u219, u220, u221, u222, u223, u224, u225, u226, u227, u228, u229, u230, u231, u232, u233, u234, u235, u236, u237, u238, u239, u240, u241, u242, u243, u244, u245, u246, u247, u248, u249, u250, u251, u252, u253, u254, u255, u256, u257, u258, u259, u260, u261, u262, u263, u264, u265, u266, u267, u268, u269, u270, u271, u272, u273, u274, u275, u276, u277, u278, u279, u280, u281, u282], []⟩ w := by
  have HQ := Lib.hid hq
  clear hq
  have g64 : (nn : Int) < 64 := by omega
  conv => arg 2; whnf
  go_wp2_with fail
  exact HQ.out _ _ ⟨⟨rfl, rfl, rfl, rfl, rfl, rfl, rfl, rfl, rfl, rfl, rfl, rfl,  rfl⟩, rfl⟩
def lenV : Value → Nat
  | .slice _ n _ => n
  | _ => 0
def OutRel (g b off n c B : Nat) (s : St8) (d : Nat → UInt8) (w0 : World) (a : Act) (w : World) : Prop :=
  ∃ j off2, 64 * j ≤ n ∧ OutAct g b off2 (n - 64 * j) (c - 64 * j) B (shaN d s j) a ∧ (64 * j < c → off2 = off + 64 * j) ∧ InMem w0 B (fun _ => 0) 0 w
def OutMu (a : Act) (_ : World) : Nat := lenV (a.tmps.getD 1 undef)
theorem OutMu_of {g b off nn cc B : Nat} {h : St8} {a : Act} {w : World} (hA : OutAct g b off nn cc B h a) : OutMu a w = nn := by
  unfold OutMu
  rw [hA.e1]
  rfl
set_option maxHeartbeats 0 in
set_option maxRecDepth 1000000 in
theorem outer (g b off n c B : Nat) (s : St8) (d : Nat → UInt8) (w0 : World) (hnc : n ≤ c) (hc : c ≤ 9223372036854775807) (hdat : ∀ j, j < n → w0.cell? ⟨b, off + j, none⟩ = some (.int .u8 ((d j).toNat : Int)))
    (hK : ∀ j, j < 64 → w0.cell? ⟨4, j, none⟩ = some (.int .u32 (Kc.getD j 0))) (hB4 : B ≠ 4) (hbB : b ≠ B) (Q0 : Exit → Act → World → Prop)
    (hq : ∀ a w off2 n2 c2, OutAct g b off2 n2 c2 B (shaN d s (n / 64)) a → InMem w0 B (fun _ => 0) 0 w → Q0 (.exit 0) a w) (a : Act) (w : World) (hA : OutAct g b off n c B s a) (hM : InMem w0 B (fun _ => 0) 0 w) :
    Code.wp Tryz.prog (Code.loop outBody) Q0 a w := by
  refine wp_loop (OutRel g b off n c B s d w0) OutMu ⟨0, off, by omega, hA, fun _ => by omega, hM⟩ ?_
  clear hA hM
  intro a w hI
  obtain ⟨j, off2, hj, hA, ho, hM⟩ := hI
  rw [OutMu_of hA]
  by_cases h64 : 64 ≤ n - 64 * j
  · have ho := ho (by omega)
    subst ho
    refine Code.wp_mono (Q := Exit.then (OutK g b (off + 64 * j) (n - 64 * j) (c - 64 * j) B (blk1 d (64 * j) (shaN d s j)) w0) Q0) ?_ ?_
    · intro e a' w' he
      cases e with
      | normal =>
        obtain ⟨off3, h1, h2, h3⟩ := he
        refine ⟨⟨j + 1, off3, by omega, ?_, fun h => ?_, h3⟩, ?_⟩
        · have e1 : n - 64 * (j + 1) = n - 64 * j - 64 := by omega
          have e2 : c - 64 * (j + 1) = c - 64 * j - 64 := by omega
          rw [e1, e2]
          exact h1
        · rw [h2 (by omega)]; omega
        · rw [OutMu_of h1]; omega
      | _ => exact he
    · refine hA.elim (C := fun a => Code.wp Tryz.prog outBody _ a w) ?_
      intro u2 u3 u13 u14 u15 u16 u17 u18 u19 u20 u21 u22 u23 u24 u25 u26 u27 u28 u29 u30 u31 u32 u33 u34 u35 u36 u37 u38 u39 u40 u41 u42 u43 u44 u45 u46 u47 u48 u49 u50 u51 u52 u53 u54 u55 u56 u57 u58 u59 u60 u61 u62 u63 u64 u65 u66 u67 u68 u69 u70 u71 u72 u73 u74 u75 u76 u77 u78 u79 u80 u81 u82 u83 u84 u85 u86 u87 u88 u89 u90 u91 u92 u93 u94 u95 u96 u97 u98 u99 u100 u101 u102 u103 u104 u105 u106 u107 u108 u109 u110 u111 u112 u113 u114 u115 u116 u117 u118 u119 u120 u121 u122 u123 u124 u125 u126 u127 u128 u129 u130 u131 u132 u133 u134 u135 u136 u137 u138 u139 u140 u141 u142 u143 u144 u145 u146 u147 u148 u149 u150 u151 u152 u153 u154 u155 u156 u157 u158 u159 u160 u161 u162 u163 u164 u165 u166 u167 u168 u169 u170 u171 u172 u173 u174 u175 u176 u177 u178 u179 u180 u181 u182 u183 u184 u185 u186 u187 u188 u189 u190 u191 u192 u193 u194 u195 u196 u197 u198 u199 u200 u201 u202 u203 u204 u205 u206 u207 u208 u209 u210 u211 u212 u213 u214 u215 u216 u217 u218 u219 u220 u221 u222 u223 u224 u225 u226 u227 u228 u229 u230 u231 u232 u233 u234 u235 u236 u237 u238 u239 u240 u241 u242 u243 u244 u245 u246 u247 u248 u249 u250 u251 u252 u253 u254 u255 u256 u257 u258 u259 u260 u261 u262 u263 u264 u265 u266 u267 u268 u269 u270 u271 u272 u273 u274 u275 u276 u277 u278 u279 u280 u281 u282
      refine out_round g b (off + 64 * j) (n - 64 * j) (c - 64 * j) B (shaN d s j) d (64 * j) w0 w h64 (by omega) (by omega) (fun i hi => ?_) hK hB4 hbB hM Q0 _ _ _ _ _ _ _ _ _ _ _ _ _ _ _ _ _ _ _ _ _ _ _ _ _ _ _ _ _ _ _ _ _ _ _ _ _ _ _ _ _ _ _ _ _ _ _ _ _ _ _ _ _ _ _ _ _ _ _ _ _ _ _ _ _ _ _ _ _ _ _ _ _ _ _ _ _ _ _ _ _ _ _ _ _ _ _ _ _ _ _ _ _ _ _ _ _ _ _ _ _ _ _ _ _ _ _ _ _ _ _ _ _ _ _ _ _ _ _ _ _ _ _ _ _ _ _ _ _ _ _ _ _ _ _ _ _ _ _ _ _ _ _ _ _ _ _ _ _ _ _ _ _ _ _ _ _ _ _ _ _ _ _ _ _ _ _ _ _ _ _ _ _ _ _ _ _ _ _ _ _ _ _ _ _ _ _ _ _ _ _ _ _ _ _ _ _ _ _ _ _ _ _ _ _ _ _ _ _ _ _ _ _ _ _ _ _ _ _ _ _ _ _ _ _ _ _ _ _ _ _ _ _ _ _ _ _ _ _ _ _ _ _ _ _ _ _ _ _ _ _ _ _ _ _ _ _ _ _ _ _ _ _ _ _ _ _ _ _ _ _ _
      rw [Nat.add_assoc]
      exact hdat _ (by omega)
  · have hjn : j = n / 64 := by omega
    refine hA.elim (C := fun a => Code.wp Tryz.prog outBody _ a w) ?_
    intro u2 u3 u13 u14 u15 u16 u17 u18 u19 u20 u21 u22 u23 u24 u25 u26 u27 u28 u29 u30 u31 u32 u33 u34 u35 u36 u37 u38 u39 u40 u41 u42 u43 u44 u45 u46 u47 u48 u49 u50 u51 u52 u53 u54 u55 u56 u57 u58 u59 u60 u61 u62 u63 u64 u65 u66 u67 u68 u69 u70 u71 u72 u73 u74 u75 u76 u77 u78 u79 u80 u81 u82 u83 u84 u85 u86 u87 u88 u89 u90 u91 u92 u93 u94 u95 u96 u97 u98 u99 u100 u101 u102 u103 u104 u105 u106 u107 u108 u109 u110 u111 u112 u113 u114 u115 u116 u117 u118 u119 u120 u121 u122 u123 u124 u125 u126 u127 u128 u129 u130 u131 u132 u133 u134 u135 u136 u137 u138 u139 u140 u141 u142 u143 u144 u145 u146 u147 u148 u149 u150 u151 u152 u153 u154 u155 u156 u157 u158 u159 u160 u161 u162 u163 u164 u165 u166 u167 u168 u169 u170 u171 u172 u173 u174 u175 u176 u177 u178 u179 u180 u181 u182 u183 u184 u185 u186 u187 u188 u189 u190 u191 u192 u193 u194 u195 u196 u197 u198 u199 u200 u201 u202 u203 u204 u205 u206 u207 u208 u209 u210 u211 u212 u213 u214 u215 u216 u217 u218 u219 u220 u221 u222 u223 u224 u225 u226 u227 u228 u229 u230 u231 u232 u233 u234 u235 u236 u237 u238 u239 u240 u241 u242 u243 u244 u245 u246 u247 u248 u249 u250 u251 u252 u253 u254 u255 u256 u257 u258 u259 u260 u261 u262 u263 u264 u265 u266 u267 u268 u269 u270 u271 u272 u273 u274 u275 u276 u277 u278 u279 u280 u281 u282
    refine out_end g b off2 (n - 64 * j) (c - 64 * j) B (shaN d s j) w (by omega) _ Q0 (fun a1 w1 hE => ?_) _ _ _ _ _ _ _ _ _ _ _ _ _ _ _ _ _ _ _ _ _ _ _ _ _ _ _ _ _ _ _ _ _ _ _ _ _ _ _ _ _ _ _ _ _ _ _ _ _ _ _ _ _ _ _ _ _ _ _ _ _ _ _ _ _ _ _ _ _ _ _ _ _ _ _ _ _ _ _ _ _ _ _ _ _ _ _ _ _ _ _ _ _ _ _ _ _ _ _ _ _ _ _ _ _ _ _ _ _ _ _ _ _ _ _ _ _ _ _ _ _ _ _ _ _ _ _ _ _ _ _ _ _ _ _ _ _ _ _ _ _ _ _ _ _ _ _ _ _ _ _ _ _ _ _ _ _ _ _ _ _ _ _ _ _ _ _ _ _ _ _ _ _ _ _ _ _ _ _ _ _ _ _ _ _ _ _ _ _ _ _ _ _ _ _ _ _ _ _ _ _ _ _ _ _ _ _ _ _ _ _ _ _ _ _ _ _ _ _ _ _ _ _ _ _ _ _ _ _ _ _ _ _ _ _ _ _ _ _ _ _ _ _ _ _ _ _ _ _ _ _ _ _ _ _ _ _ _ _ _ _ _ _ _ _ _ _ _ _ _ _ _
    obtain ⟨h1, rfl⟩ := hE
    rw [hjn] at h1
    exact hq _ _ _ _ _ h1 hM
end Go.Proofs.YtgnmgkpfgmpdfaaGreatDoor
end

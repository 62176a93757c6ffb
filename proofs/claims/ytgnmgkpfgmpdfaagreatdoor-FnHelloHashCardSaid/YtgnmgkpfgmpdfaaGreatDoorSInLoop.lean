/- sha256.blockGeneric: the inner loop. -/
import Derived.Test.YtgnmgkpfgmpdfaaGreatDoorSInLo
import Derived.Test.YtgnmgkpfgmpdfaaGreatDoorSInHi
set_option linter.unusedVariables false
set_option linter.unusedSimpArgs false
namespace Go.Proofs.YtgnmgkpfgmpdfaaGreatDoor
open Go.RowKit

set_option maxRecDepth 1000000 in
theorem InAct.elim {g b off nn cc B k : Nat} {h s : St8} {C : Act → Prop} (H : ∀ (u2 u3 u21 u22 u23 u24 u25 u26 u27 u28 u29 u30 u31 u32 u33 u34 u35 u36 u37 u38 u39 u40 u41 u42 u43 u44 u45 u46 u47 u48 u49 u50 u51 u52 u53 u54 u55 u56 u57 u58 u59 u60 u61 u62 u63 u64 u65 u66 u67 u68 u69 u70 u71 u72 u73 u74 u75 u76 u77 u78 u79 u81 u82 u83 u84 u85 u86 u87 u88 u89 u90 u91 u92 u93 u94 u95 u96 u97 u98 u99 u100 u101 u102 u103 u104 u105 u106 u107 u108 u109 u110 u111 u112 u113 u114 u115 u116 u117 u118 u119 u120 u121 u122 u123 u124 u125 u126 u127 u128 u129 u130 u131 u132 u133 u134 u135 u136 u137 u138 u139 u140 u141 u142 u143 u144 u145 u146 u147 u148 u149 u150 u151 u152 u153 u154 u155 u156 u157 u158 u159 u160 u161 u162 u163 u164 u165 u166 u167 u168 u169 u170 u171 u172 u173 u174 u175 u176 u177 u178 u179 u180 u181 u182 u183 u184 u185 u186 u187 u188 u189 u190 u191 u192 u193 u194 u195 u196 u197 u198 u199 u200 u201 u202 u203 u204 u205 u206 u207 u208 u209 u210 u211 u212 u213 u214 u215 u216 u217 u218 u219 u220 u221 u222 u223 u224 u225 u226 u227 u228 u229 u230 u231 u232 u233 u234 u235 u236 u237 u238 u239 u240 u241 u242 u243 u244 u245 u246 u247 u248 u249 u250 u251 u252 u253 u254 u255 u256 u257 u258 u259 u260 u261 u262 u263 u264 u265 u266 u267 u268 u269 u270 u271 u272 u273 u274 u275 u276 u277 u278 u279 u280 u281 u282 : Value), C ⟨#[.pointer (some ⟨g, 0, none⟩), .slice (some ⟨b, off, none⟩) nn cc, u2, u3, .pointer (some ⟨B, 0, none⟩), .int .u32 h.a, .int .u32 h.b, .int .u32 h.c, .int .u32 h.d, .int .u32 h.e, .int .u32 h.f, .int .u32 h.g, .int .u32 h.h, .int .u32 s.a, .int .u32 s.b, .int .u32 s.c, .int .u32 s.d, .int .u32 s.e, .int .u32 s.f, .int .u32 s.g, .int .u32 s.h, u21, u22, u23, u24, u25, u26, u27, u28, u29, u30, u31, u32, u33, u34, u35, u36, u37, u38, u39, u40, u41, u42, u43, u44, u45, u46, u47, u48, u49, u50, u51, u52, u53, u54, u55, u56, u57, u58, u59, u60, u61, u62, u63, u64, u65, u66, u67, u68, u69, u70, u71, u72, u73, u74, u75, u76, u77, u78, u79, .int .i64 (k : Int), u81, u82, u83, u84, u85, u86, u87, u88, u89, u90, u91, u92, u93, u94, u95, u96, u97, u98, u99, u100, u101, u102, u103, u104, u105, u106, u107, u108, u109, u110, u111, u112, u113, u114, u115, u116, u117, u118, u119, u120, u121, u122, u123, u124, u125, u126, u127, u128, u129, u130, u131, u132, u133, u134, u135, u136, u137, u138, u139, u140, u141, u142, u143, u144, u145, u146, u147, u148, u149, u150, u151, u152, u153, u154, u155, u156, u157, u158, u159, u160, u161, u162, u163, u164, u165, u166, u167, u168, u169, u170, u171, u172, u173, u174, u175, u176, u177, u178, u179, u180, u181, u182, u183, u184, u185, u186, u187, u188, u189, u190, u191, u192, u193, u194, u195, u196, u197, u198, u199, u200, u201, u202, u203, u204, u205, u206, u207, u208, u209, u210, u211, u212, u213, u214, u215, u216, u217, u218, u219, u220, u221, u222, u223, u224, u225, u226, u227, u228, u229, u230, u231, u232, u233, u234, u235, u236, u237, u238, u239, u240, u241, u242, u243, u244, u245, u246, u247, u248, u249, u250, u251, u252, u253, u254, u255, u256, u257, u258, u259, u260, u261, u262, u263, u264, u265, u266, u267, u268, u269, u270, u271, u272, u273, u274, u275, u276, u277, u278, u279, u280, u281, u282], []⟩) {a : Act} (hA : InAct g b off nn cc B h k s a) : C a := by
  obtain ⟨t, df⟩ := a
  obtain ⟨d, sz, e0, e1, e4, e5, e6, e7, e8, e9, e10, e11, e12, e13, e14, e15, e16, e17, e18, e19, e20, e80⟩ := hA
  simp only at d sz e0 e1 e4 e5 e6 e7 e8 e9 e10 e11 e12 e13 e14 e15 e16 e17 e18 e19 e20 e80
  subst d
  have e := frame283 t sz
  rw [e0, e1, e4, e5, e6, e7, e8, e9, e10, e11, e12, e13, e14, e15, e16, e17, e18, e19, e20, e80] at e
  rw [e]
  exact H _ _ _ _ _ _ _ _ _ _ _ _ _ _ _ _ _ _ _ _ _ _ _ _ _ _ _ _ _ _ _ _ _ _ _ _ _ _ _ _ _ _ _ _ _ _ _ _ _ _ _ _ _ _ _ _ _ _ _ _ _ _ _ _ _ _ _ _ _ _ _ _ _ _ _ _ _ _ _ _ _ _ _ _ _ _ _ _ _ _ _ _ _ _ _ _ _ _ _ _ _ _ _ _ _ _ _ _ _ _ _ _ _ _ _ _ _ _ _ _ _ _ _ _ _ _ _ _ _ _ _ _ _ _ _ _ _ _ _ _ _ _ _ _ _ _ _ _ _ _ _ _ _ _ _ _ _ _ _ _ _ _ _ _ _ _ _ _ _ _ _ _ _ _ _ _ _ _ _ _ _ _ _ _ _ _ _ _ _ _ _ _ _ _ _ _ _ _ _ _ _ _ _ _ _ _ _ _ _ _ _ _ _ _ _ _ _ _ _ _ _ _ _ _ _ _ _ _ _ _ _ _ _ _ _ _ _ _ _ _ _ _ _ _ _ _ _ _ _ _ _ _ _ _ _ _ _ _ _ _ _ _ _
/-- The words laid so far. -/
structure InMem (w0 : World) (B : Nat) (m : Nat → Int) (k : Nat) (w : World) : Prop where
  blk : ∃ cs : Array Value, w.heap[B]? = some (.cells cs 315 (0, 0)) ∧ cs.size = 64 ∧ ∀ j, j < k → cs[j]? = some (.int .u32 (wd m j))
  chg : Chg w0 w (fun i => i = B)
theorem InMem.step {w0 w : World} {B : Nat} {m : Nat → Int} {k : Nat} (h : InMem w0 B m k w) (hk : k < 64) : InMem w0 B m (k + 1) (World.drew (World.drew (w.setCell ⟨B, k, none⟩ (.int .u32 (wd m k))))) := by
  obtain ⟨⟨cs, hb, hs, hw⟩, hc⟩ := h
  refine ⟨⟨cs.setIfInBounds k (.int .u32 (wd m k)), bset hb k _, by simpa using hs, fun j hj => ?_⟩, ((hc.setCell (.inl rfl) _).drew).drew⟩
  by_cases e : k = j
  · subst e
    simp [hs, hk]
  · rw [Array.getElem?_setIfInBounds_ne e]
    exact hw j (by omega)
theorem InMem.old {w0 w : World} {B : Nat} {m : Nat → Int} {k : Nat} (h : InMem w0 B m k w) {a : Addr} {v : Value} (hc : w0.cell? a = some v) (hn : a.block ≠ B) : w.cell? a = some v := h.chg.cell hc hn
theorem InMem.word {w0 w : World} {B : Nat} {m : Nat → Int} {k : Nat} (h : InMem w0 B m k w) {j : Nat} (hj : j < k) : w.cell? ⟨B, j, none⟩ = some (.int .u32 (wd m j)) := by
  obtain ⟨⟨cs, hb, hs, hw⟩, hc⟩ := h
  rw [bcell hb]
  exact hw j hj
theorem InMem.free {w0 w : World} {B : Nat} {m : Nat → Int} {k : Nat} (h : InMem w0 B m k w) {j : Nat} (hj : j < 64) : (∃ r, w.cell? ⟨B, j, none⟩ = some r) ∧ w.frozen? ⟨B, j, none⟩ = false := by
  obtain ⟨⟨cs, hb, hs, hw⟩, hc⟩ := h
  rw [bcell hb]
  exact ⟨⟨cs[j]'(by omega), Array.getElem?_eq_getElem _⟩, bfrozen hb j⟩
/-- The exit. -/
def EndK (g b off nn cc B : Nat) (h s : St8) (w : World) (a : Act) (w1 : World) : Prop := InAct g b off nn cc B h 64 s a ∧ w1 = w
set_option maxHeartbeats 0 in
set_option maxRecDepth 1000000 in
theorem round_end (g b off nn cc B : Nat) (h s : St8) (u2 u3 u21 u22 u23 u24 u25 u26 u27 u28 u29 u30 u31 u32 u33 u34 u35 u36 u37 u38 u39 u40 u41 u42 u43 u44 u45 u46 u47 u48 u49 u50 u51 u52 u53 u54 u55 u56 u57 u58 u59 u60 u61 u62 u63 u64 u65 u66 u67 u68 u69 u70 u71 u72 u73 u74 u75 u76 u77 u78 u79 u81 u82 u83 u84 u85 u86 u87 u88 u89 u90 u91 u92 u93 u94 u95 u96 u97 u98 u99 u100 u101 u102 u103 u104 u105 u106 u107 u108 u109 u110 u111 u112 u113 u114 u115 u116 u117 u118 u119 u120 u121 u122 u123 u124 u125 u126 u127 u128 u129 u130 u131 u132 u133 u134 u135 u136 u137 u138 u139 u140 u141 u142 u143 u144 u145 u146 u147 u148 u149 u150 u151 u152 u153 u154 u155 u156 u157 u158 u159 u160 u161 u162 u163 u164 u165 u166 u167 u168 u169 u170 u171 u172 u173 u174 u175 u176 u177 u178 u179 u180 u181 u182 u183 u184 u185 u186 u187 u188 u189 u190 u191 u192 u193 u194 u195 u196 u197 u198 u199 u200 u201 u202 u203 u204 u205 u206 u207 u208 u209 u210 u211 u212 u213 u214 u215 u216 u217 u218 u219 u220 u221 u222 u223 u224 u225 u226 u227 u228 u229 u230 u231 u232 u233 u234 u235 u236 u237 u238 u239 u240 u241 u242 u243 u244 u245 u246 u247 u248 u249 u250 u251 u252 u253 u254 u255 u256 u257 u258 u259 u260 u261 u262 u263 u264 u265 u266 u267 u268 u269 u270 u271 u272 u273 u274 u275 u276 u277 u278 u279 u280 u281 u282 : Value) (K : Act → World → Prop) (Q0 : Exit → Act → World → Prop) (w : World) (hq : ∀ a1 w1, EndK g b off nn cc B h s w a1 w1 → Q0 (.exit 2) a1 w1) :
    Code.wp Tryz.prog inBody (Exit.then K Q0) ⟨#[.pointer (some ⟨g, 0, none⟩), .slice (some ⟨b, off, none⟩) nn cc, u2, u3, .pointer (some ⟨B, 0, none⟩), .int .u32 h.a, .int .u32 h.b, .int .u32 h.c, .int .u32 h.d, .int .u32 h.e, .int .u32 h.f, .int .u32 h.g, .int .u32 h.h, .int .u32 s.a, .int .u32 s.b, .int .u32 s.c, .int .u32 s.d, .int .u32 s.e, .int .u32 s.f, .int .u32 s.g, .int .u32 s.h, u21, u22, u23, u24, u25, u26, u27, u28, u29, u30, u31, u32, u33, u34, u35, u36, u37, u38, u39, u40, u41, u42, u43, u44, u45, u46, u47, u48, u49, u50, u51, u52, u53, u54, u55, u56, u57, u58, u59, u60, u61, u62, u63, u64, u65, u66, u67, u68, u69, u70, u71, u72, u73, u74, u75, u76, u77, u78, u79, .int .i64 (64 : Int), u81, u82, u83, u84, u85, u86, u87, u88, u89, u90, u91, u92, u93, u94, u95, u96, u97, u98, u99, u100, u101, u102, u103, u104, u105, u106, u107, u108, u109, u110, u111, u112, u113, u114, u115, u116, u117, u118, u119, u120, u121, u122, u123, u124, u125, u126, u127, u128, u129, u130, u131, u132, u133, u134, u135, u136, u137, u138, u139, u140, u141, u142, u143, u144, u145, u146, u147, u148, u149, u150, u151, u152, u153, u154, u155, u156, u157, u158, u159, u160, u161, u162, u163, u164, u165, u166, u167, u168, u169, u170, u171, u172, u173, u174, u175, u176, u177, u178, u179, u180, u181, u182, u183, u184, u185, u186, u187, u188, u189, u190, u191, u192, u193, u194, u195, u196, u197, u198, u199, u200, u201, u202, u203, u204, u205, u206, u207, u208, u209, u210, u211, u212, u213, u214, u215, u216, u217, u218, u219, u220, u221, u222, u223, u224, u225, u226, u227, u228, u229, u230, u231, u232, u233, u234, u235, u236, u237, u238, u239, u240, u241, u242, u243, u244, u245, u246, u247, u248, u249, u250, u251, u252, u253, u254, u255, u256, u257, u258, u259, u260, u261, u262, u263, u264, u265, u266, u267, u268, u269, u270, u271, u272, u273, u274, u275, u276, u277, u278, u279, u280, u281, u282], []⟩ w := by
  have HQ := Lib.hid hq
  clear hq
  conv => arg 2; whnf
  go_wp2_with fail
  exact HQ.out _ _ ⟨⟨rfl, rfl, rfl, rfl, rfl, rfl, rfl, rfl, rfl, rfl, rfl, rfl, rfl, rfl, rfl, rfl, rfl, rfl, rfl, rfl, rfl,  rfl⟩, rfl⟩

/-- The inner loop's relation. -/
def InRel (g b off nn cc B : Nat) (h : St8) (m : Nat → Int) (w0 : World) (a : Act) (w : World) : Prop :=
  ∃ k, k ≤ 64 ∧ InAct g b off nn cc B h k (rounds m h k) a ∧ InMem w0 B m k w
def InMu (a : Act) (_ : World) : Nat := 64 - (intOf (a.tmps.getD 80 undef)).toNat
theorem InMu_of {g b off nn cc B : Nat} {h : St8} {k : Nat} {s : St8} {a : Act} {w : World} (hA : InAct g b off nn cc B h k s a) : InMu a w = 64 - k := by
  unfold InMu
  rw [hA.e80]
  simp [intOf]
set_option maxHeartbeats 0 in
set_option maxRecDepth 1000000 in
theorem round (g b off nn cc B : Nat) (h : St8) (d : Nat → UInt8) (o : Nat) (w0 : World) (hn : 64 ≤ nn) (hn1 : nn ≤ 9223372036854775807) (hdat : ∀ j, j < 64 → w0.cell? ⟨b, off + j, none⟩ = some (.int .u8 ((d (o + j)).toNat : Int)))
    (hK : ∀ j, j < 64 → w0.cell? ⟨4, j, none⟩ = some (.int .u32 (Kc.getD j 0))) (hB4 : B ≠ 4) (hbB : b ≠ B) (Q0 : Exit → Act → World → Prop)
    (hq : ∀ a w, InAct g b off nn cc B h 64 (rounds (blkWord d o) h 64) a → InMem w0 B (blkWord d o) 64 w → Q0 (.exit 2) a w) (a : Act) (w : World) (hI : InRel g b off nn cc B h (blkWord d o) w0 a w) :
    Code.wp Tryz.prog inBody (Exit.then (fun a' w' => InRel g b off nn cc B h (blkWord d o) w0 a' w' ∧ InMu a' w' < InMu a w) Q0) a w := by
  obtain ⟨k, hk, hA, hM⟩ := hI
  rw [InMu_of hA]
  by_cases h64 : k = 64
  · subst h64
    refine hA.elim (C := fun a => Code.wp Tryz.prog inBody _ a w) ?_
    intro u2 u3 u21 u22 u23 u24 u25 u26 u27 u28 u29 u30 u31 u32 u33 u34 u35 u36 u37 u38 u39 u40 u41 u42 u43 u44 u45 u46 u47 u48 u49 u50 u51 u52 u53 u54 u55 u56 u57 u58 u59 u60 u61 u62 u63 u64 u65 u66 u67 u68 u69 u70 u71 u72 u73 u74 u75 u76 u77 u78 u79 u81 u82 u83 u84 u85 u86 u87 u88 u89 u90 u91 u92 u93 u94 u95 u96 u97 u98 u99 u100 u101 u102 u103 u104 u105 u106 u107 u108 u109 u110 u111 u112 u113 u114 u115 u116 u117 u118 u119 u120 u121 u122 u123 u124 u125 u126 u127 u128 u129 u130 u131 u132 u133 u134 u135 u136 u137 u138 u139 u140 u141 u142 u143 u144 u145 u146 u147 u148 u149 u150 u151 u152 u153 u154 u155 u156 u157 u158 u159 u160 u161 u162 u163 u164 u165 u166 u167 u168 u169 u170 u171 u172 u173 u174 u175 u176 u177 u178 u179 u180 u181 u182 u183 u184 u185 u186 u187 u188 u189 u190 u191 u192 u193 u194 u195 u196 u197 u198 u199 u200 u201 u202 u203 u204 u205 u206 u207 u208 u209 u210 u211 u212 u213 u214 u215 u216 u217 u218 u219 u220 u221 u222 u223 u224 u225 u226 u227 u228 u229 u230 u231 u232 u233 u234 u235 u236 u237 u238 u239 u240 u241 u242 u243 u244 u245 u246 u247 u248 u249 u250 u251 u252 u253 u254 u255 u256 u257 u258 u259 u260 u261 u262 u263 u264 u265 u266 u267 u268 u269 u270 u271 u272 u273 u274 u275 u276 u277 u278 u279 u280 u281 u282
    exact round_end g b off nn cc B h (rounds (blkWord d o) h 64) _ _ _ _ _ _ _ _ _ _ _ _ _ _ _ _ _ _ _ _ _ _ _ _ _ _ _ _ _ _ _ _ _ _ _ _ _ _ _ _ _ _ _ _ _ _ _ _ _ _ _ _ _ _ _ _ _ _ _ _ _ _ _ _ _ _ _ _ _ _ _ _ _ _ _ _ _ _ _ _ _ _ _ _ _ _ _ _ _ _ _ _ _ _ _ _ _ _ _ _ _ _ _ _ _ _ _ _ _ _ _ _ _ _ _ _ _ _ _ _ _ _ _ _ _ _ _ _ _ _ _ _ _ _ _ _ _ _ _ _ _ _ _ _ _ _ _ _ _ _ _ _ _ _ _ _ _ _ _ _ _ _ _ _ _ _ _ _ _ _ _ _ _ _ _ _ _ _ _ _ _ _ _ _ _ _ _ _ _ _ _ _ _ _ _ _ _ _ _ _ _ _ _ _ _ _ _ _ _ _ _ _ _ _ _ _ _ _ _ _ _ _ _ _ _ _ _ _ _ _ _ _ _ _ _ _ _ _ _ _ _ _ _ _ _ _ _ _ _ _ _ _ _ _ _ _ _ _ _ _ _ _ _ _ Q0 w (fun a1 w1 hE => by obtain ⟨h1, rfl⟩ := hE; exact hq _ _ h1 hM)
  · have hlt : k < 64 := by omega
    have hstep : ∀ v, v = wd (blkWord d o) k → ∀ e a' w', Exit.then (RoundK g b off nn cc B h k (rnd (Kc.getD k 0) v (rounds (blkWord d o) h k)) v w) Q0 e a' w' →
        Exit.then (fun a' w' => InRel g b off nn cc B h (blkWord d o) w0 a' w' ∧ InMu a' w' < 64 - k) Q0 e a' w' := by
      intro v hv e a' w' he
      cases e with
      | normal =>
        obtain ⟨h1, rfl⟩ := he
        subst hv
        refine ⟨⟨k + 1, by omega, h1, hM.step hlt⟩, ?_⟩
        rw [InMu_of h1]
        omega
      | _ => exact he
    obtain ⟨⟨r0, hr⟩, hf⟩ := hM.free hlt
    have hkc := hM.old (hK k hlt) (fun e => hB4 e.symm)
    by_cases h16 : k < 16
    · refine Code.wp_mono (hstep (blkWord d o k) (wd_lo _ h16).symm) ?_
      refine hA.elim (C := fun a => Code.wp Tryz.prog inBody _ a w) ?_
      intro u2 u3 u21 u22 u23 u24 u25 u26 u27 u28 u29 u30 u31 u32 u33 u34 u35 u36 u37 u38 u39 u40 u41 u42 u43 u44 u45 u46 u47 u48 u49 u50 u51 u52 u53 u54 u55 u56 u57 u58 u59 u60 u61 u62 u63 u64 u65 u66 u67 u68 u69 u70 u71 u72 u73 u74 u75 u76 u77 u78 u79 u81 u82 u83 u84 u85 u86 u87 u88 u89 u90 u91 u92 u93 u94 u95 u96 u97 u98 u99 u100 u101 u102 u103 u104 u105 u106 u107 u108 u109 u110 u111 u112 u113 u114 u115 u116 u117 u118 u119 u120 u121 u122 u123 u124 u125 u126 u127 u128 u129 u130 u131 u132 u133 u134 u135 u136 u137 u138 u139 u140 u141 u142 u143 u144 u145 u146 u147 u148 u149 u150 u151 u152 u153 u154 u155 u156 u157 u158 u159 u160 u161 u162 u163 u164 u165 u166 u167 u168 u169 u170 u171 u172 u173 u174 u175 u176 u177 u178 u179 u180 u181 u182 u183 u184 u185 u186 u187 u188 u189 u190 u191 u192 u193 u194 u195 u196 u197 u198 u199 u200 u201 u202 u203 u204 u205 u206 u207 u208 u209 u210 u211 u212 u213 u214 u215 u216 u217 u218 u219 u220 u221 u222 u223 u224 u225 u226 u227 u228 u229 u230 u231 u232 u233 u234 u235 u236 u237 u238 u239 u240 u241 u242 u243 u244 u245 u246 u247 u248 u249 u250 u251 u252 u253 u254 u255 u256 u257 u258 u259 u260 u261 u262 u263 u264 u265 u266 u267 u268 u269 u270 u271 u272 u273 u274 u275 u276 u277 u278 u279 u280 u281 u282
      have c0 := hM.old (hdat (k * 4) (by omega)) hbB
      have c1 := hM.old (hdat (k * 4 + 1) (by omega)) hbB
      have c2 := hM.old (hdat (k * 4 + 2) (by omega)) hbB
      have c3 := hM.old (hdat (k * 4 + 3) (by omega)) hbB
      exact round_lo g b off nn cc B k h.a h.b h.c h.d h.e h.f h.g h.h (rounds (blkWord d o) h k).a (rounds (blkWord d o) h k).b (rounds (blkWord d o) h k).c (rounds (blkWord d o) h k).d (rounds (blkWord d o) h k).e (rounds (blkWord d o) h k).f (rounds (blkWord d o) h k).g (rounds (blkWord d o) h k).h _ _ _ _ _ _ _ _ _ _ _ _ _ _ _ _ _ _ _ _ _ _ _ _ _ _ _ _ _ _ _ _ _ _ _ _ _ _ _ _ _ _ _ _ _ _ _ _ _ _ _ _ _ _ _ _ _ _ _ _ _ _ _ _ _ _ _ _ _ _ _ _ _ _ _ _ _ _ _ _ _ _ _ _ _ _ _ _ _ _ _ _ _ _ _ _ _ _ _ _ _ _ _ _ _ _ _ _ _ _ _ _ _ _ _ _ _ _ _ _ _ _ _ _ _ _ _ _ _ _ _ _ _ _ _ _ _ _ _ _ _ _ _ _ _ _ _ _ _ _ _ _ _ _ _ _ _ _ _ _ _ _ _ _ _ _ _ _ _ _ _ _ _ _ _ _ _ _ _ _ _ _ _ _ _ _ _ _ _ _ _ _ _ _ _ _ _ _ _ _ _ _ _ _ _ _ _ _ _ _ _ _ _ _ _ _ _ _ _ _ _ _ _ _ _ _ _ _ _ _ _ _ _ _ _ _ _ _ _ _ _ _ _ _ _ _ _ _ _ _ _ _ _ _ _ _ _ _ _ _ _ _ _ Q0 w h16 hn hn1 _ _ _ _ r0 c0 c1 c2 c3 _ hkc hB4 hr hf
    · refine Code.wp_mono (hstep _ (wd_hi _ (by omega)).symm) ?_
      refine hA.elim (C := fun a => Code.wp Tryz.prog inBody _ a w) ?_
      intro u2 u3 u21 u22 u23 u24 u25 u26 u27 u28 u29 u30 u31 u32 u33 u34 u35 u36 u37 u38 u39 u40 u41 u42 u43 u44 u45 u46 u47 u48 u49 u50 u51 u52 u53 u54 u55 u56 u57 u58 u59 u60 u61 u62 u63 u64 u65 u66 u67 u68 u69 u70 u71 u72 u73 u74 u75 u76 u77 u78 u79 u81 u82 u83 u84 u85 u86 u87 u88 u89 u90 u91 u92 u93 u94 u95 u96 u97 u98 u99 u100 u101 u102 u103 u104 u105 u106 u107 u108 u109 u110 u111 u112 u113 u114 u115 u116 u117 u118 u119 u120 u121 u122 u123 u124 u125 u126 u127 u128 u129 u130 u131 u132 u133 u134 u135 u136 u137 u138 u139 u140 u141 u142 u143 u144 u145 u146 u147 u148 u149 u150 u151 u152 u153 u154 u155 u156 u157 u158 u159 u160 u161 u162 u163 u164 u165 u166 u167 u168 u169 u170 u171 u172 u173 u174 u175 u176 u177 u178 u179 u180 u181 u182 u183 u184 u185 u186 u187 u188 u189 u190 u191 u192 u193 u194 u195 u196 u197 u198 u199 u200 u201 u202 u203 u204 u205 u206 u207 u208 u209 u210 u211 u212 u213 u214 u215 u216 u217 u218 u219 u220 u221 u222 u223 u224 u225 u226 u227 u228 u229 u230 u231 u232 u233 u234 u235 u236 u237 u238 u239 u240 u241 u242 u243 u244 u245 u246 u247 u248 u249 u250 u251 u252 u253 u254 u255 u256 u257 u258 u259 u260 u261 u262 u263 u264 u265 u266 u267 u268 u269 u270 u271 u272 u273 u274 u275 u276 u277 u278 u279 u280 u281 u282
      exact round_hi g b off nn cc B k h.a h.b h.c h.d h.e h.f h.g h.h (rounds (blkWord d o) h k).a (rounds (blkWord d o) h k).b (rounds (blkWord d o) h k).c (rounds (blkWord d o) h k).d (rounds (blkWord d o) h k).e (rounds (blkWord d o) h k).f (rounds (blkWord d o) h k).g (rounds (blkWord d o) h k).h _ _ _ _ _ _ _ _ _ _ _ _ _ _ _ _ _ _ _ _ _ _ _ _ _ _ _ _ _ _ _ _ _ _ _ _ _ _ _ _ _ _ _ _ _ _ _ _ _ _ _ _ _ _ _ _ _ _ _ _ _ _ _ _ _ _ _ _ _ _ _ _ _ _ _ _ _ _ _ _ _ _ _ _ _ _ _ _ _ _ _ _ _ _ _ _ _ _ _ _ _ _ _ _ _ _ _ _ _ _ _ _ _ _ _ _ _ _ _ _ _ _ _ _ _ _ _ _ _ _ _ _ _ _ _ _ _ _ _ _ _ _ _ _ _ _ _ _ _ _ _ _ _ _ _ _ _ _ _ _ _ _ _ _ _ _ _ _ _ _ _ _ _ _ _ _ _ _ _ _ _ _ _ _ _ _ _ _ _ _ _ _ _ _ _ _ _ _ _ _ _ _ _ _ _ _ _ _ _ _ _ _ _ _ _ _ _ _ _ _ _ _ _ _ _ _ _ _ _ _ _ _ _ _ _ _ _ _ _ _ _ _ _ _ _ _ _ _ _ _ _ _ _ _ _ _ _ _ _ _ _ _ _ Q0 w (by omega) hlt _ _ _ _ r0 (hM.word (j := k - 2) (by omega)) (hM.word (j := k - 7) (by omega)) (hM.word (j := k - 15) (by omega)) (hM.word (j := k - 16) (by omega)) _ hkc hB4 hr hf
theorem inner (g b off nn cc B : Nat) (h : St8) (d : Nat → UInt8) (o : Nat) (w0 : World) (hn : 64 ≤ nn) (hn1 : nn ≤ 9223372036854775807) (hdat : ∀ j, j < 64 → w0.cell? ⟨b, off + j, none⟩ = some (.int .u8 ((d (o + j)).toNat : Int)))
    (hK : ∀ j, j < 64 → w0.cell? ⟨4, j, none⟩ = some (.int .u32 (Kc.getD j 0))) (hB4 : B ≠ 4) (hbB : b ≠ B) (Q0 : Exit → Act → World → Prop)
    (hq : ∀ a w, InAct g b off nn cc B h 64 (rounds (blkWord d o) h 64) a → InMem w0 B (blkWord d o) 64 w → Q0 (.exit 2) a w) (a : Act) (w : World) (hA : InAct g b off nn cc B h 0 h a) (hM : InMem w0 B (blkWord d o) 0 w) :
    Code.wp Tryz.prog (Code.loop inBody) Q0 a w :=
  wp_loop (InRel g b off nn cc B h (blkWord d o) w0) InMu ⟨0, by omega, hA, hM⟩ (fun a w hI => round g b off nn cc B h d o w0 hn hn1 hdat hK hB4 hbB Q0 hq a w hI)
end Go.Proofs.YtgnmgkpfgmpdfaaGreatDoor

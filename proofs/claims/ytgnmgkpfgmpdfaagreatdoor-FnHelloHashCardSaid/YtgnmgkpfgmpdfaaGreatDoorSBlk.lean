/- sha256.blockGeneric: the last statement: eight words stored. -/
import Derived.Test.YtgnmgkpfgmpdfaaGreatDoorSOutLoop
import Derived.LoopTactic
import Derived.BigQuiet
import Derived.StillTailTactics
set_option linter.unusedVariables false
set_option linter.unusedSimpArgs false
section
namespace Go.Proofs.YtgnmgkpfgmpdfaaGreatDoor
open Go.RowKit

theorem size22 : (Tryz.prog.info? 22).map (·.size) = some 1 := by kernel_rfl
theorem wp_store1 {P : Program} {op : Oper} {a : Act} {w : World} {K : Act → World → Prop} {Q : Exit → Act → World → Prop} (ty : TypeId) (x y : Operand) (ho : op.op = .store ty x y) (b o : Nat) (k : IntKind) (n : Int)
    (hx : a.eval x = .pointer (some ⟨b, o, none⟩)) (hy : a.eval y = .int k n) (hi : (P.info? ty).map (·.size) = some 1) (cs : Array Value) (t0 : TypeId) (hb : w.heap[b]? = some (.cells cs t0 (0, 0))) (hlt : o < cs.size)
    (h : K (a.put op.dst undef) (w.setCell ⟨b, o, none⟩ (.int k n))) : op.wp P a w K Q := by
  have hc : w.cell? ⟨b, o, none⟩ = some cs[o] := (bcell hb o).trans (Array.getElem?_eq_getElem hlt)
  have hf : w.frozen? ⟨b, o, none⟩ = false := bfrozen hb o
  unfold Oper.wp execOp
  cases hq : P.info? ty with
  | none => simp [hq] at hi
  | some i =>
    have hs : i.size = 1 := by simpa [hq] using hi
    have hr : (Instr.storeAt ty (.pointer (some ⟨b, o, none⟩)) (.int k n)).run P w = .ok () (w.setCell ⟨b, o, none⟩ (.int k n)) := by
      simp [Instr.storeAt, Instr.sureAddr, storeVar, sizeOf, typeInfo, hq, hs, Value.cells, storeCells, Addr.add, Sem.run, store, hc, hf]
    simp only [ho, hx, hy, Sem.run_bind, hr, Result.andThen_ok, Sem.run_pure]
    exact h
theorem wpAny_take1 {P : Program} {md : Region.Mode} {ops : Array Oper} {Q : Exit → Act → World → Prop} {fuel : Nat} {listed : Array Bool} {a : Act} {w : World} {i : Nat} {d : Tmp} {v : Value} (hp : ∀ c a w (d : Tmp) v, Q (.panic c) (a.put (some d) v) w → Q (.panic c) a w)
    (hs : Region.noSelect ops = true) (hf : Region.free md ops listed i = true) (hr : (Region.ready md ops listed).contains i = true)
    (hy : ∀ w, ((ops[i]?).map fun o => (o.dst, Region.wanted o (yielded ops a.tmps), (execOp a.eval o).run P w)) = some (some d, true, .ok (.value v) w))
    (h : wpAny P md ops Q fuel (listed.setIfInBounds i true) (a.put (some d) v) w) : wpAny P md ops Q (fuel + 1) listed a w := by
  cases ho : ops[i]? with
  | none => have := hy w; simp [ho] at this
  | some o =>
    simp only [ho, Option.map_some, Option.some.injEq, Prod.mk.injEq] at hy
    have hd := (hy w).1
    refine wpAny_take (v := v) ho hs hf hr (fun c a w h => by rw [hd] at h; exact hp c _ _ _ _ h) (Or.inl ⟨(hy w).2.1, fun w => (hy w).2.2⟩) ?_
    rw [(hy w).1]
    exact h
theorem wpAny_store1 {P : Program} {md : Region.Mode} {ops : Array Oper} {Q : Exit → Act → World → Prop} {fuel : Nat} {listed : Array Bool} {a : Act} {w : World} {i : Nat} (ty : TypeId) (x y : Operand) (hr : Region.ready md ops listed = [i])
    (hop : ((ops[i]?).map fun o => (o.guard, o.dst, o.op)) = some (none, none, .store ty x y)) (b o : Nat) (k : IntKind) (n : Int)
    (hx : a.eval x = .pointer (some ⟨b, o, none⟩)) (hy : a.eval y = .int k n) (hi : (P.info? ty).map (·.size) = some 1) (cs : Array Value) (t0 : TypeId) (hb : w.heap[b]? = some (.cells cs t0 (0, 0))) (hlt : o < cs.size)
    (h : wpAny P md ops Q fuel (listed.setIfInBounds i true) a (w.setCell ⟨b, o, none⟩ (.int k n))) : wpAny P md ops Q (fuel + 1) listed a w := by
  cases ho : ops[i]? with
  | none => simp [ho] at hop
  | some q =>
    simp only [ho, Option.map_some, Option.some.injEq, Prod.mk.injEq] at hop
    refine wpAny_ready hr (by simp) (AllReady.cons ho (fun K hK => ?_) AllReady.nil)
    rw [if_pos (by simp [Region.wanted, hop.1])]
    refine wp_store1 ty x y hop.2.2 b o k n hx hy hi cs t0 hb hlt ?_
    rw [hop.2.1]
    exact hK _ _ h
/-- A digest's first cells. -/
def put8 (cs : Array Value) (s : St8) : Array Value :=
  (((((((cs.setIfInBounds 0 (.int .u32 s.a)).setIfInBounds 1 (.int .u32 s.b)).setIfInBounds 2 (.int .u32 s.c)).setIfInBounds 3 (.int .u32 s.d)).setIfInBounds 4 (.int .u32 s.e)).setIfInBounds 5 (.int .u32 s.f)).setIfInBounds 6 (.int .u32 s.g)).setIfInBounds 7 (.int .u32 s.h)
def sndLast : Code → Code
  | .seq _ b => sndLast b
  | c => c
noncomputable def lastRegion : Code := (Tryz.f126.body.map sndLast).getD .skip
set_option maxHeartbeats 0 in
set_option maxRecDepth 1000000 in
theorem blk_end (g b off nn cc B : Nat) (h : St8) (w0 w : World) (cs : Array Value) (hg : w.heap[g]? = some (.cells cs 235 (0, 0))) (h75 : 7 < cs.size) (hc : Chg w0 w (fun i => i = g)) (Q : Exit → Act → World → Prop) (hp : ∀ c a w (d : Tmp) v, Q (.panic c) (a.put (some d) v) w → Q (.panic c) a w)
    (hq : ∀ a w', w'.heap[g]? = some (.cells (put8 cs h) 235 (0, 0)) → Chg w0 w' (fun i => i = g) → a.defers = [] → Q .normal a w') (u2 u3 u13 u14 u15 u16 u17 u18 u19 u20 u21 u22 u23 u24 u25 u26 u27 u28 u29 u30 u31 u32 u33 u34 u35 u36 u37 u38 u39 u40 u41 u42 u43 u44 u45 u46 u47 u48 u49 u50 u51 u52 u53 u54 u55 u56 u57 u58 u59 u60 u61 u62 u63 u64 u65 u66 u67 u68 u69 u70 u71 u72 u73 u74 u75 u76 u77 u78 u79 u80 u81 u82 u83 u84 u85 u86 u87 u88 u89 u90 u91 u92 u93 u94 u95 u96 u97 u98 u99 u100 u101 u102 u103 u104 u105 u106 u107 u108 u109 u110 u111 u112 u113 u114 u115 u116 u117 u118 u119 u120 u121 u122 u123 u124 u125 u126 u127 u128 u129 u130 u131 u132 u133 u134 u135 u136 u137 u138 u139 u140 u141 u142 u143 u144 u145 u146 u147 u148 u149 u150 u151 u152 u153 u154 u155 u156 u157 u158 u159 u160 u161 u162 u163 u164 u165 u166 u167 u168 u169 u170 u171 u172 u173 u174 u175 u176 u177 u178 u179 u180 u181 u182 u183 u184 u185 u186 u187 u188 u189 u190 u191 u192 u193 u194 u195 u196 u197 u198 u199 u200 u201 u202 u203 u204 u205 u206 u207 u208 u209 u210 u211 u212 u213 u214 u215 u216 u217 u218 u219 u220 u221 u222 u223 u224 u225 u226 u227 u228 u229 u230 u231 u232 u233 u234 u235 u236 u237 u238 u239 u240 u241 u242 u243 u244 u245 u246 u247 u248 u249 u250 u251 u252 u253 u254 u255 u256 u257 u258 u259 u260 u261 u262 u263 u264 u265 u266 u267 u268 u269 u270 u271 u272 u273 u274 u275 u276 u277 u278 u279 u280 u281 u282 : Value) :
    Code.wp Tryz.prog lastRegion Q ⟨#[.pointer (some ⟨g, 0, none⟩), .slice (some ⟨b, off, none⟩) nn cc, u2, u3, .pointer (some ⟨B, 0, none⟩), .int .u32 h.a, .int .u32 h.b, .int .u32 h.c, .int .u32 h.d, .int .u32 h.e, .int .u32 h.f, .int .u32 h.g, .int .u32 h.h, u13, u14, u15, u16, u17, u18, u19, u20, u21, u22, u23, u24, u25, u26, u27, u28, u29, u30, u31, u32, u33, u34, u35, u36, u37, u38, u39, u40, u41, u42, u43, u44, u45, u46, u47, u48, u49, u50, u51, u52, u53, u54, u55, u56, u57, u58, u59, u60, u61, u62, u63, u64, u65, u66, u67, u68, u69, u70, u71, u72, u73, u74, u75, u76, u77, u78, u79, u80, u81, u82, u83, u84, u85, u86, u87, u88, u89, u90, u91, u92, u93, u94, u95, u96, u97, u98, u99, u100, u101, u102, u103, u104, u105, u106, u107, u108, u109, u110, u111, u112, u113, u114, u115, u116, u117, u118, u119, u120, u121, u122, u123, u124, u125, u126, u127, u128, u129, u130, u131, u132, u133, u134, u135, u136, u137, u138, u139, u140, u141, u142, u143, u144, u145, u146, u147, u148, u149, u150, u151, u152, u153, u154, u155, u156, u157, u158, u159, u160, u161, u162, u163, u164, u165, u166, u167, u168, u169, u170, u171, u172, u173, u174, u175, u176, u177, u178, u179, u180, u181, u182, u183, u184, u185, u186, u187, u188, u189, u190, u191, u192, u193, u194, u195, u196, u197, u198, u199, u200, u201, u202, u203, u204, u205, u206, u207, u208, u209, u210, u211, u212, u213, u214, u215, u216, u217, u218, u219, u220, u221, u222, u223, u224, u225, u226, u227, u228, u229, u230, u231, u232, u233, u234, u235, u236, u237, u238, u239, u240, u241, u242, u243, u244, u245, u246, u247, u248, u249, u250, u251, u252, u253, u254, u255, u256, u257, u258, u259, u260, u261, u262, u263, u264, u265, u266, u267, u268, u269, u270, u271, u272, u273, u274, u275, u276, u277, u278, u279, u280, u281, u282], []⟩ w := by
  conv => arg 2; whnf
  refine wp_region_any (by kernel_rfl) ?_
  have hc1 := hc.drew
  have hg1 : w.drew.heap[g]? = some (.cells cs 235 (0, 0)) := hg
  clear hg hc
  have hg := hg1
  have hc := hc1
  clear hg1 hc1
  change wpAny _ _ _ _ _ _ _ w.drew
  generalize w.drew = w at hg hc ⊢
  refine wpAny_take1 (i := 0) (d := 243) (v := .pointer (some ⟨g, 0, none⟩)) hp (by kernel_rfl) (by kernel_rfl) (by kernel_rfl) (fun _ => by kernel_rfl) ?_
  refine wpAny_take1 (i := 1) (d := 244) (v := .pointer (some ⟨g, 0, none⟩)) hp (by kernel_rfl) (by kernel_rfl) (by kernel_rfl) (fun _ => by kernel_rfl) ?_
  refine wpAny_take1 (i := 2) (d := 245) (v := .pointer (some ⟨g, 0, none⟩)) hp (by kernel_rfl) (by kernel_rfl) (by kernel_rfl) (fun _ => by kernel_rfl) ?_
  refine wpAny_take1 (i := 3) (d := 246) (v := .pointer (some ⟨g, 0, none⟩)) hp (by kernel_rfl) (by kernel_rfl) (by kernel_rfl) (fun _ => by kernel_rfl) ?_
  refine wpAny_take1 (i := 4) (d := 247) (v := .pointer (some ⟨g, 0, none⟩)) hp (by kernel_rfl) (by kernel_rfl) (by kernel_rfl) (fun _ => by kernel_rfl) ?_
  refine wpAny_take1 (i := 5) (d := 248) (v := .pointer (some ⟨g, 0, none⟩)) hp (by kernel_rfl) (by kernel_rfl) (by kernel_rfl) (fun _ => by kernel_rfl) ?_
  refine wpAny_take1 (i := 6) (d := 249) (v := .pointer (some ⟨g, 0, none⟩)) hp (by kernel_rfl) (by kernel_rfl) (by kernel_rfl) (fun _ => by kernel_rfl) ?_
  refine wpAny_take1 (i := 7) (d := 250) (v := .pointer (some ⟨g, 0, none⟩)) hp (by kernel_rfl) (by kernel_rfl) (by kernel_rfl) (fun _ => by kernel_rfl) ?_
  refine wpAny_take1 (i := 8) (d := 251) (v := .int .u32 h.a) hp (by kernel_rfl) (by kernel_rfl) (by kernel_rfl) (fun _ => by kernel_rfl) ?_
  refine wpAny_take1 (i := 9) (d := 252) (v := .int .u32 h.b) hp (by kernel_rfl) (by kernel_rfl) (by kernel_rfl) (fun _ => by kernel_rfl) ?_
  refine wpAny_take1 (i := 10) (d := 253) (v := .int .u32 h.c) hp (by kernel_rfl) (by kernel_rfl) (by kernel_rfl) (fun _ => by kernel_rfl) ?_
  refine wpAny_take1 (i := 11) (d := 254) (v := .int .u32 h.d) hp (by kernel_rfl) (by kernel_rfl) (by kernel_rfl) (fun _ => by kernel_rfl) ?_
  refine wpAny_take1 (i := 12) (d := 255) (v := .int .u32 h.e) hp (by kernel_rfl) (by kernel_rfl) (by kernel_rfl) (fun _ => by kernel_rfl) ?_
  refine wpAny_take1 (i := 13) (d := 256) (v := .int .u32 h.f) hp (by kernel_rfl) (by kernel_rfl) (by kernel_rfl) (fun _ => by kernel_rfl) ?_
  refine wpAny_take1 (i := 14) (d := 257) (v := .int .u32 h.g) hp (by kernel_rfl) (by kernel_rfl) (by kernel_rfl) (fun _ => by kernel_rfl) ?_
  refine wpAny_take1 (i := 15) (d := 258) (v := .int .u32 h.h) hp (by kernel_rfl) (by kernel_rfl) (by kernel_rfl) (fun _ => by kernel_rfl) ?_
  refine wpAny_take1 (i := 16) (d := 259) (v := .pointer (some ⟨g, 0, none⟩)) hp (by kernel_rfl) (by kernel_rfl) (by kernel_rfl) (fun _ => by kernel_rfl) ?_
  refine wpAny_take1 (i := 17) (d := 260) (v := .pointer (some ⟨g, 0, none⟩)) hp (by kernel_rfl) (by kernel_rfl) (by kernel_rfl) (fun _ => by kernel_rfl) ?_
  refine wpAny_take1 (i := 18) (d := 261) (v := .pointer (some ⟨g, 0, none⟩)) hp (by kernel_rfl) (by kernel_rfl) (by kernel_rfl) (fun _ => by kernel_rfl) ?_
  refine wpAny_take1 (i := 20) (d := 262) (v := .pointer (some ⟨g, 0, none⟩)) hp (by kernel_rfl) (by kernel_rfl) (by kernel_rfl) (fun _ => by kernel_rfl) ?_
  refine wpAny_take1 (i := 21) (d := 263) (v := .pointer (some ⟨g, 0, none⟩)) hp (by kernel_rfl) (by kernel_rfl) (by kernel_rfl) (fun _ => by kernel_rfl) ?_
  refine wpAny_take1 (i := 24) (d := 265) (v := .pointer (some ⟨g, 0, none⟩)) hp (by kernel_rfl) (by kernel_rfl) (by kernel_rfl) (fun _ => by kernel_rfl) ?_
  refine wpAny_take1 (i := 25) (d := 266) (v := .pointer (some ⟨g, 0, none⟩)) hp (by kernel_rfl) (by kernel_rfl) (by kernel_rfl) (fun _ => by kernel_rfl) ?_
  refine wpAny_take1 (i := 28) (d := 268) (v := .pointer (some ⟨g, 0, none⟩)) hp (by kernel_rfl) (by kernel_rfl) (by kernel_rfl) (fun _ => by kernel_rfl) ?_
  refine wpAny_take1 (i := 29) (d := 269) (v := .pointer (some ⟨g, 0, none⟩)) hp (by kernel_rfl) (by kernel_rfl) (by kernel_rfl) (fun _ => by kernel_rfl) ?_
  refine wpAny_take1 (i := 32) (d := 271) (v := .pointer (some ⟨g, 0, none⟩)) hp (by kernel_rfl) (by kernel_rfl) (by kernel_rfl) (fun _ => by kernel_rfl) ?_
  refine wpAny_take1 (i := 33) (d := 272) (v := .pointer (some ⟨g, 0, none⟩)) hp (by kernel_rfl) (by kernel_rfl) (by kernel_rfl) (fun _ => by kernel_rfl) ?_
  refine wpAny_take1 (i := 36) (d := 274) (v := .pointer (some ⟨g, 0, none⟩)) hp (by kernel_rfl) (by kernel_rfl) (by kernel_rfl) (fun _ => by kernel_rfl) ?_
  refine wpAny_take1 (i := 37) (d := 275) (v := .pointer (some ⟨g, 0, none⟩)) hp (by kernel_rfl) (by kernel_rfl) (by kernel_rfl) (fun _ => by kernel_rfl) ?_
  refine wpAny_take1 (i := 40) (d := 277) (v := .pointer (some ⟨g, 0, none⟩)) hp (by kernel_rfl) (by kernel_rfl) (by kernel_rfl) (fun _ => by kernel_rfl) ?_
  refine wpAny_take1 (i := 41) (d := 278) (v := .pointer (some ⟨g, 0, none⟩)) hp (by kernel_rfl) (by kernel_rfl) (by kernel_rfl) (fun _ => by kernel_rfl) ?_
  refine wpAny_take1 (i := 44) (d := 280) (v := .pointer (some ⟨g, 0, none⟩)) hp (by kernel_rfl) (by kernel_rfl) (by kernel_rfl) (fun _ => by kernel_rfl) ?_
  refine wpAny_take1 (i := 45) (d := 281) (v := .pointer (some ⟨g, 0, none⟩)) hp (by kernel_rfl) (by kernel_rfl) (by kernel_rfl) (fun _ => by kernel_rfl) ?_
  refine wpAny_store1 (i := 19) 22 (.tmp 261) (.tmp 251) (by kernel_rfl) (by kernel_rfl) g 0 .u32 h.a (by kernel_rfl) (by kernel_rfl) size22 _ 235 hg (by (try simp only [Array.size_setIfInBounds]); omega) ?_
  have hg1 := bset hg 0 (.int .u32 h.a)
  have hc1 := hc.setCell (p := ⟨g, 0, none⟩) (.inl rfl) (.int .u32 h.a)
  clear hg hc
  have hg := hg1
  have hc := hc1
  clear hg1 hc1
  generalize World.setCell _ ⟨g, 0, none⟩ (.int .u32 h.a) = w1 at hg hc ⊢
  refine wpAny_take1 (i := 22) (d := 264) (v := .pointer (some ⟨g, 1, none⟩)) hp (by kernel_rfl) (by kernel_rfl) (by kernel_rfl) (fun _ => by kernel_rfl) ?_
  refine wpAny_store1 (i := 23) 22 (.tmp 264) (.tmp 252) (by kernel_rfl) (by kernel_rfl) g 1 .u32 h.b (by kernel_rfl) (by kernel_rfl) size22 _ 235 hg (by (try simp only [Array.size_setIfInBounds]); omega) ?_
  have hg1 := bset hg 1 (.int .u32 h.b)
  have hc1 := hc.setCell (p := ⟨g, 1, none⟩) (.inl rfl) (.int .u32 h.b)
  clear hg hc
  have hg := hg1
  have hc := hc1
  clear hg1 hc1
  generalize World.setCell _ ⟨g, 1, none⟩ (.int .u32 h.b) = w1 at hg hc ⊢
  refine wpAny_take1 (i := 26) (d := 267) (v := .pointer (some ⟨g, 2, none⟩)) hp (by kernel_rfl) (by kernel_rfl) (by kernel_rfl) (fun _ => by kernel_rfl) ?_
  refine wpAny_store1 (i := 27) 22 (.tmp 267) (.tmp 253) (by kernel_rfl) (by kernel_rfl) g 2 .u32 h.c (by kernel_rfl) (by kernel_rfl) size22 _ 235 hg (by (try simp only [Array.size_setIfInBounds]); omega) ?_
  have hg1 := bset hg 2 (.int .u32 h.c)
  have hc1 := hc.setCell (p := ⟨g, 2, none⟩) (.inl rfl) (.int .u32 h.c)
  clear hg hc
  have hg := hg1
  have hc := hc1
  clear hg1 hc1
  generalize World.setCell _ ⟨g, 2, none⟩ (.int .u32 h.c) = w1 at hg hc ⊢
  refine wpAny_take1 (i := 30) (d := 270) (v := .pointer (some ⟨g, 3, none⟩)) hp (by kernel_rfl) (by kernel_rfl) (by kernel_rfl) (fun _ => by kernel_rfl) ?_
  refine wpAny_store1 (i := 31) 22 (.tmp 270) (.tmp 254) (by kernel_rfl) (by kernel_rfl) g 3 .u32 h.d (by kernel_rfl) (by kernel_rfl) size22 _ 235 hg (by (try simp only [Array.size_setIfInBounds]); omega) ?_
  have hg1 := bset hg 3 (.int .u32 h.d)
  have hc1 := hc.setCell (p := ⟨g, 3, none⟩) (.inl rfl) (.int .u32 h.d)
  clear hg hc
  have hg := hg1
  have hc := hc1
  clear hg1 hc1
  generalize World.setCell _ ⟨g, 3, none⟩ (.int .u32 h.d) = w1 at hg hc ⊢
  refine wpAny_take1 (i := 34) (d := 273) (v := .pointer (some ⟨g, 4, none⟩)) hp (by kernel_rfl) (by kernel_rfl) (by kernel_rfl) (fun _ => by kernel_rfl) ?_
  refine wpAny_store1 (i := 35) 22 (.tmp 273) (.tmp 255) (by kernel_rfl) (by kernel_rfl) g 4 .u32 h.e (by kernel_rfl) (by kernel_rfl) size22 _ 235 hg (by (try simp only [Array.size_setIfInBounds]); omega) ?_
  have hg1 := bset hg 4 (.int .u32 h.e)
  have hc1 := hc.setCell (p := ⟨g, 4, none⟩) (.inl rfl) (.int .u32 h.e)
  clear hg hc
  have hg := hg1
  have hc := hc1
  clear hg1 hc1
  generalize World.setCell _ ⟨g, 4, none⟩ (.int .u32 h.e) = w1 at hg hc ⊢
  refine wpAny_take1 (i := 38) (d := 276) (v := .pointer (some ⟨g, 5, none⟩)) hp (by kernel_rfl) (by kernel_rfl) (by kernel_rfl) (fun _ => by kernel_rfl) ?_
  refine wpAny_store1 (i := 39) 22 (.tmp 276) (.tmp 256) (by kernel_rfl) (by kernel_rfl) g 5 .u32 h.f (by kernel_rfl) (by kernel_rfl) size22 _ 235 hg (by (try simp only [Array.size_setIfInBounds]); omega) ?_
  have hg1 := bset hg 5 (.int .u32 h.f)
  have hc1 := hc.setCell (p := ⟨g, 5, none⟩) (.inl rfl) (.int .u32 h.f)
  clear hg hc
  have hg := hg1
  have hc := hc1
  clear hg1 hc1
  generalize World.setCell _ ⟨g, 5, none⟩ (.int .u32 h.f) = w1 at hg hc ⊢
  refine wpAny_take1 (i := 42) (d := 279) (v := .pointer (some ⟨g, 6, none⟩)) hp (by kernel_rfl) (by kernel_rfl) (by kernel_rfl) (fun _ => by kernel_rfl) ?_
  refine wpAny_store1 (i := 43) 22 (.tmp 279) (.tmp 257) (by kernel_rfl) (by kernel_rfl) g 6 .u32 h.g (by kernel_rfl) (by kernel_rfl) size22 _ 235 hg (by (try simp only [Array.size_setIfInBounds]); omega) ?_
  have hg1 := bset hg 6 (.int .u32 h.g)
  have hc1 := hc.setCell (p := ⟨g, 6, none⟩) (.inl rfl) (.int .u32 h.g)
  clear hg hc
  have hg := hg1
  have hc := hc1
  clear hg1 hc1
  generalize World.setCell _ ⟨g, 6, none⟩ (.int .u32 h.g) = w1 at hg hc ⊢
  refine wpAny_take1 (i := 46) (d := 282) (v := .pointer (some ⟨g, 7, none⟩)) hp (by kernel_rfl) (by kernel_rfl) (by kernel_rfl) (fun _ => by kernel_rfl) ?_
  refine wpAny_store1 (i := 47) 22 (.tmp 282) (.tmp 258) (by kernel_rfl) (by kernel_rfl) g 7 .u32 h.h (by kernel_rfl) (by kernel_rfl) size22 _ 235 hg (by (try simp only [Array.size_setIfInBounds]); omega) ?_
  have hg1 := bset hg 7 (.int .u32 h.h)
  have hc1 := hc.setCell (p := ⟨g, 7, none⟩) (.inl rfl) (.int .u32 h.h)
  clear hg hc
  have hg := hg1
  have hc := hc1
  clear hg1 hc1
  generalize World.setCell _ ⟨g, 7, none⟩ (.int .u32 h.h) = w1 at hg hc ⊢
  refine wpAny_done (by kernel_rfl) ?_ _
  exact hq _ _ hg hc (by kernel_rfl)
end Go.Proofs.YtgnmgkpfgmpdfaaGreatDoor
end

/- sha256.blockGeneric. -/
section
namespace Go.Proofs.YtgnmgkpfgmpdfaaGreatDoor
open Go.RowKit

structure Has8 (cs : Array Value) (s : St8) : Prop where
  h0 : cs[0]? = some (.int .u32 s.a)
  h1 : cs[1]? = some (.int .u32 s.b)
  h2 : cs[2]? = some (.int .u32 s.c)
  h3 : cs[3]? = some (.int .u32 s.d)
  h4 : cs[4]? = some (.int .u32 s.e)
  h5 : cs[5]? = some (.int .u32 s.f)
  h6 : cs[6]? = some (.int .u32 s.g)
  h7 : cs[7]? = some (.int .u32 s.h)
def zero64 : Array Value := (List.replicate 64 (Value.int .u32 0)).toArray
set_option maxHeartbeats 0 in
set_option maxRecDepth 1000000 in
theorem blockG (g b off n c : Nat) (s : St8) (d : Nat → UInt8) (cs : Array Value) (w : World) (hnc : n ≤ c) (hc : c ≤ 9223372036854775807) (hdat : ∀ j, j < n → w.cell? ⟨b, off + j, none⟩ = some (.int .u8 ((d j).toNat : Int)))
    (hb : b < w.heap.size) (hK : ∀ j, j < 64 → w.cell? ⟨4, j, none⟩ = some (.int .u32 (Kc.getD j 0))) (hg : w.heap[g]? = some (.cells cs 235 (0, 0))) (hs : Has8 cs s) :
    Calls Tryz.prog 126 #[.pointer (some ⟨g, 0, none⟩), .slice (some ⟨b, off, none⟩) n c] w fun e w' => e = .returned (.tuple #[]) ∧ w'.heap[g]? = some (.cells (put8 cs (shaN d s (n / 64))) 235 (0, 0)) ∧ Chg w w' (fun i => i = g) := by
  have HD := Lib.hid hdat
  have HK := Lib.hid hK
  have HG := Lib.hid hg
  have HS := Lib.hid hs
  clear hdat hK hg hs
  go_enter Tryz.func126, Tryz.ntmps126
  go_wp2_with fail
  rename_i K hK
  change Code.wp _ _ _ _ (w.alloc (Obj.cells zero64 315))
  have hB : Below w.heap.size w (w.alloc (Obj.cells zero64 315)).drew := ((Below.refl _ _).alloc (Nat.le_refl _) _).drew
  have hBB : (w.alloc (Obj.cells zero64 315)).drew.heap[w.heap.size]? = some (.cells zero64 315 (0, 0)) := heap_alloc_new w _
  generalize hW : w.alloc (Obj.cells zero64 315) = W at hB hBB ⊢
  have HW := Lib.hid hW
  clear hW
  have hgb := bblk hB HG.out
  have k0 : W.drew.cell? ⟨g, 0, none⟩ = _ := (bcell hgb 0).trans HS.out.h0
  have k1 : W.drew.cell? ⟨g, 1, none⟩ = _ := (bcell hgb 1).trans HS.out.h1
  have k2 : W.drew.cell? ⟨g, 2, none⟩ = _ := (bcell hgb 2).trans HS.out.h2
  have k3 : W.drew.cell? ⟨g, 3, none⟩ = _ := (bcell hgb 3).trans HS.out.h3
  have k4 : W.drew.cell? ⟨g, 4, none⟩ = _ := (bcell hgb 4).trans HS.out.h4
  have k5 : W.drew.cell? ⟨g, 5, none⟩ = _ := (bcell hgb 5).trans HS.out.h5
  have k6 : W.drew.cell? ⟨g, 6, none⟩ = _ := (bcell hgb 6).trans HS.out.h6
  have k7 : W.drew.cell? ⟨g, 7, none⟩ = _ := (bcell hgb 7).trans HS.out.h7
  have HGB := Lib.hid hgb
  have HBB := Lib.hid hBB
  have HB := Lib.hid hB
  clear hgb hBB hB
  refine wp_region_still_lit (by kernel_rfl) (by kernel_rfl) ?_
  repeat still_step
  try refine wpStill_nil ?_
  change Exit.then _ _ _ _ (World.drew W)
  refine hK _ _ ?_
  clear hK K k0 k1 k2 k3 k4 k5 k6 k7
  have h4 : w.heap.size ≠ 4 := fun e => by
    have := World.block_lt_of_cell? w _ (HK.out 0 (by omega))
    simp only at this
    omega
  refine wp_seq_k (fun K hK => ?_)
  refine wp_block ?_
  refine outer g b off n c w.heap.size s d W.drew hnc hc (fun j hj => bcellv HB.out (HD.out j hj)) (fun j hj => bcellv HB.out (HK.out j hj)) h4 (by omega) _ (fun a1 w1 off2 n2 c2 hA1 hM1 => ?_) _ _ ⟨rfl, rfl, rfl, rfl, rfl, rfl, rfl, rfl, rfl, rfl, rfl, rfl, rfl⟩ ⟨⟨zero64, HBB.out, rfl, fun j hj => by omega⟩, Chg.refl _ _⟩
  refine hK _ _ ?_
  clear hK K
  have hgB : g ≠ w.heap.size := fun e => by
    have := blt HG.out
    omega
  have hg1 := hM1.chg.blk HGB.out hgB
  have hc1 : Chg w w1 (fun i => i = g) := (Chg.of_below HB.out _).trans hM1.chg (fun i hi e => by omega)
  have h75 : 7 < cs.size := (Array.getElem?_eq_some_iff.1 HS.out.h7).1
  refine hA1.elim (C := fun a => Code.wp Tryz.prog _ _ a w1) ?_
  intro u2 u3 u13 u14 u15 u16 u17 u18 u19 u20 u21 u22 u23 u24 u25 u26 u27 u28 u29 u30 u31 u32 u33 u34 u35 u36 u37 u38 u39 u40 u41 u42 u43 u44 u45 u46 u47 u48 u49 u50 u51 u52 u53 u54 u55 u56 u57 u58 u59 u60 u61 u62 u63 u64 u65 u66 u67 u68 u69 u70 u71 u72 u73 u74 u75 u76 u77 u78 u79 u80 u81 u82 u83 u84 u85 u86 u87 u88 u89 u90 u91 u92 u93 u94 u95 u96 u97 u98 u99 u100 u101 u102 u103 u104 u105 u106 u107 u108 u109 u110 u111 u112 u113 u114 u115 u116 u117 u118 u119 u120 u121 u122 u123 u124 u125 u126 u127 u128 u129 u130 u131 u132 u133 u134 u135 u136 u137 u138 u139 u140 u141 u142 u143 u144 u145 u146 u147 u148 u149 u150 u151 u152 u153 u154 u155 u156 u157 u158 u159 u160 u161 u162 u163 u164 u165 u166 u167 u168 u169 u170 u171 u172 u173 u174 u175 u176 u177 u178 u179 u180 u181 u182 u183 u184 u185 u186 u187 u188 u189 u190 u191 u192 u193 u194 u195 u196 u197 u198 u199 u200 u201 u202 u203 u204 u205 u206 u207 u208 u209 u210 u211 u212 u213 u214 u215 u216 u217 u218 u219 u220 u221 u222 u223 u224 u225 u226 u227 u228 u229 u230 u231 u232 u233 u234 u235 u236 u237 u238 u239 u240 u241 u242 u243 u244 u245 u246 u247 u248 u249 u250 u251 u252 u253 u254 u255 u256 u257 u258 u259 u260 u261 u262 u263 u264 u265 u266 u267 u268 u269 u270 u271 u272 u273 u274 u275 u276 u277 u278 u279 u280 u281 u282
  refine blk_end g b off2 n2 c2 w.heap.size (shaN d s (n / 64)) w w1 cs hg1 h75 hc1 _ (fun _ _ _ _ _ h => h) (fun a w' h1 h2 h3 => ?_) _ _ _ _ _ _ _ _ _ _ _ _ _ _ _ _ _ _ _ _ _ _ _ _ _ _ _ _ _ _ _ _ _ _ _ _ _ _ _ _ _ _ _ _ _ _ _ _ _ _ _ _ _ _ _ _ _ _ _ _ _ _ _ _ _ _ _ _ _ _ _ _ _ _ _ _ _ _ _ _ _ _ _ _ _ _ _ _ _ _ _ _ _ _ _ _ _ _ _ _ _ _ _ _ _ _ _ _ _ _ _ _ _ _ _ _ _ _ _ _ _ _ _ _ _ _ _ _ _ _ _ _ _ _ _ _ _ _ _ _ _ _ _ _ _ _ _ _ _ _ _ _ _ _ _ _ _ _ _ _ _ _ _ _ _ _ _ _ _ _ _ _ _ _ _ _ _ _ _ _ _ _ _ _ _ _ _ _ _ _ _ _ _ _ _ _ _ _ _ _ _ _ _ _ _ _ _ _ _ _ _ _ _ _ _ _ _ _ _ _ _ _ _ _ _ _ _ _ _ _ _ _ _ _ _ _ _ _ _ _ _ _ _ _ _ _ _ _ _ _ _ _ _ _ _ _ _ _ _ _ _ _ _ _ _ _ _ _ _ _ _ _
  exact bodyPost_end (v := .tuple #[]) (by kernel_rfl) h3 ⟨rfl, h1, h2⟩
end Go.Proofs.YtgnmgkpfgmpdfaaGreatDoor
end

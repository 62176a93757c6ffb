/- spec.helloBlock: the first loop. -/
import Derived.Test.YtgnmgkpfgmpdfaaGreatDoorSHb0
set_option linter.unusedVariables false
set_option linter.unusedSimpArgs false
section
namespace Go.Proofs.YtgnmgkpfgmpdfaaGreatDoor
open Go.RowKit

/-- What a round leaves. -/
def Hb1K (q : Nat) (s : ByteArray) (g k : Nat) (w : World) (a : Act) (w1 : World) : Prop := Hb1A q s g (k + 1) a ∧ w1 = w.drew.setCell ⟨g, k, none⟩ (.int .u32 (blkWord (sby s) 0 k))
set_option maxHeartbeats 0 in
set_option maxRecDepth 1000000 in
theorem hb1_round (q : Nat) (s : ByteArray) (g k : Nat) (u2 u3 u4 u7 u8 u9 u10 u11 u12 u13 u14 u15 u16 u17 u18 u19 u20 u21 u22 u23 u24 u25 u26 u27 u28 u29 u30 u31 u32 u33 u34 u35 u36 u37 u38 u39 u40 u41 u42 u43 u44 u45 u46 u47 u48 u49 u50 u51 u52 u53 u54 u55 u56 u57 u58 u59 u60 u61 u62 u63 u64 u65 u66 u67 u68 u69 u70 u71 u72 u73 u74 u75 u76 u77 u78 u79 u80 u81 u82 u83 u84 u85 u86 u87 u88 u89 u90 u91 u92 u93 u94 u95 u96 u97 u98 u99 u100 u101 u102 u103 u104 u105 u106 u107 u108 u109 u110 u111 u112 u113 u114 u115 u116 u117 u118 u119 u120 u121 u122 u123 u124 u125 u126 u127 u128 u129 u130 u131 u132 u133 u134 u135 u136 u137 u138 u139 u140 u141 u142 u143 u144 u145 u146 u147 u148 u149 u150 u151 u152 u153 u154 u155 u156 u157 u158 u159 u160 u161 u162 u163 u164 u165 u166 u167 u168 u169 u170 u171 u172 u173 u174 u175 u176 u177 u178 u179 u180 u181 u182 u183 u184 u185 u186 u187 u188 u189 u190 u191 u192 u193 u194 u195 u196 u197 u198 u199 u200 u201 u202 u203 u204 u205 u206 u207 u208 u209 u210 u211 u212 u213 u214 u215 u216 u217 u218 u219 u220 u221 u222 u223 u224 u225 u226 u227 u228 u229 u230 u231 u232 u233 u234 u235 u236 u237 u238 u239 u240 u241 u242 u243 u244 u245 u246 u247 u248 u249 u250 u251 : Value) (Q0 : Exit → Act → World → Prop) (hp : ∀ c a w (d : Tmp) v, Q0 (.panic c) (a.put (some d) v) w → Q0 (.panic c) a w) (w : World) (hs : s.size = 64) (hk : k < 16) (r0 : Value) (r : w.cell? ⟨g, k, none⟩ = some r0) (f : w.frozen? ⟨g, k, none⟩ = false) :
    Code.wp Tryz.prog (hbBody 0) (Exit.then (Hb1K q s g k w) Q0) ⟨#[.slice (some ⟨q, 0, none⟩) 8 8, .string s, u2, u3, u4, .slice (some ⟨g, 0, none⟩) 64 64, .int .i64 (k : Int), u7, u8, u9, u10, u11, u12, u13, u14, u15, u16, u17, u18, u19, u20, u21, u22, u23, u24, u25, u26, u27, u28, u29, u30, u31, u32, u33, u34, u35, u36, u37, u38, u39, u40, u41, u42, u43, u44, u45, u46, u47, u48, u49, u50, u51, u52, u53, u54, u55, u56, u57, u58, u59, u60, u61, u62, u63, u64, u65, u66, u67, u68, u69, u70, u71, u72, u73, u74, u75, u76, u77, u78, u79, u80, u81, u82, u83, u84, u85, u86, u87, u88, u89, u90, u91, u92, u93, u94, u95, u96, u97, u98, u99, u100, u101, u102, u103, u104, u105, u106, u107, u108, u109, u110, u111, u112, u113, u114, u115, u116, u117, u118, u119, u120, u121, u122, u123, u124, u125, u126, u127, u128, u129, u130, u131, u132, u133, u134, u135, u136, u137, u138, u139, u140, u141, u142, u143, u144, u145, u146, u147, u148, u149, u150, u151, u152, u153, u154, u155, u156, u157, u158, u159, u160, u161, u162, u163, u164, u165, u166, u167, u168, u169, u170, u171, u172, u173, u174, u175, u176, u177, u178, u179, u180, u181, u182, u183, u184, u185, u186, u187, u188, u189, u190, u191, u192, u193, u194, u195, u196, u197, u198, u199, u200, u201, u202, u203, u204, u205, u206, u207, u208, u209, u210, u211, u212, u213, u214, u215, u216, u217, u218, u219, u220, u221, u222, u223, u224, u225, u226, u227, u228, u229, u230, u231, u232, u233, u234, u235, u236, u237, u238, u239, u240, u241, u242, u243, u244, u245, u246, u247, u248, u249, u250, u251], []⟩ w := by
  conv => arg 2; whnf
  have gk : (k : Int) < 16 := by omega
  have hk64 : k < 64 := by omega
  have e0 : IntKind.i64.wrap (4 * (k : Int)) = ((0 + k * 4 : Nat) : Int) := by rw [IntKind.wrap_i64]; omega
  have e1 : IntKind.i64.wrap (((0 + k * 4 : Nat) : Int) + 1) = ((0 + (k * 4 + 1) : Nat) : Int) := by rw [IntKind.wrap_i64]; omega
  have e2 : IntKind.i64.wrap (((0 + k * 4 : Nat) : Int) + 2) = ((0 + (k * 4 + 2) : Nat) : Int) := by rw [IntKind.wrap_i64]; omega
  have e3 : IntKind.i64.wrap (((0 + k * 4 : Nat) : Int) + 3) = ((0 + (k * 4 + 3) : Nat) : Int) := by rw [IntKind.wrap_i64]; omega
  go_upto_region 5 with fail
  refine wp_region_held (S := fun _ => True) (by kernel_rfl) ?_
  change wpAnyH _ _ _ _ _ 33 _ _ w.drew
  have hS0 : True := trivial
  refine wpAnyH_takeG (i := 0) (d := 27) (g := none) (op := (Op.move (Operand.tmp 5))) (v := .slice (some ⟨g, 0, none⟩) 64 64) (by kernel_rfl) (by kernel_rfl) (by kernel_rfl) (by kernel_rfl) (fun _ _ _ h => hp _ _ _ _ _ h) rfl (fun _ _ _ _ _ => by kernel_rfl) hS0 ?_
  refine wpAnyH_takeG (i := 1) (d := 28) (g := none) (op := (Op.move (Operand.tmp 6))) (v := .int .i64 (k : Int)) (by kernel_rfl) (by kernel_rfl) (by kernel_rfl) (by kernel_rfl) (fun _ _ _ h => hp _ _ _ _ _ h) rfl (fun _ _ _ _ _ => by kernel_rfl) hS0 ?_
  refine wpAnyH_takeG (i := 2) (d := 29) (g := none) (op := (Op.move (Operand.tmp 1))) (v := .string s) (by kernel_rfl) (by kernel_rfl) (by kernel_rfl) (by kernel_rfl) (fun _ _ _ h => hp _ _ _ _ _ h) rfl (fun _ _ _ _ _ => by kernel_rfl) hS0 ?_
  refine wpAnyH_takeG (i := 3) (d := 30) (g := none) (op := (Op.move (Operand.tmp 6))) (v := .int .i64 (k : Int)) (by kernel_rfl) (by kernel_rfl) (by kernel_rfl) (by kernel_rfl) (fun _ _ _ h => hp _ _ _ _ _ h) rfl (fun _ _ _ _ _ => by kernel_rfl) hS0 ?_
  refine wpAnyH_takeG (i := 4) (d := 31) (g := none) (op := (Op.binOp BinOp.mul 3 (Operand.const (Value.int IntKind.i64 4)) (Operand.tmp 30) 3)) (v := .int .i64 ((0 + k * 4 : Nat) : Int)) (by kernel_rfl) (by kernel_rfl) (by kernel_rfl) (by kernel_rfl) (fun _ _ _ h => hp _ _ _ _ _ h) rfl (fun ty pos af w2 _ => mul_run ty pos af (by kernel_rfl) (by kernel_rfl) e0 w2) hS0 ?_
  refine wpAnyH_takeG (i := 5) (d := 32) (g := none) (op := (Op.index 9 (Operand.tmp 29) (Operand.tmp 31))) (v := .int .u8 ((sby s (0 + k * 4)).toNat : Int)) (by kernel_rfl) (by kernel_rfl) (by kernel_rfl) (by kernel_rfl) (fun _ _ _ h => hp _ _ _ _ _ h) rfl (fun ty pos af w2 _ => ix_run ty pos af (by kernel_rfl) (by kernel_rfl) w2 (strix s _ (by omega) w2)) hS0 ?_
  refine wpAnyH_takeG (i := 6) (d := 33) (g := none) (op := (Op.convert 5 22 (Operand.tmp 32))) (v := .int .u32 (((sby s (0 + k * 4)).toNat : Int) % 4294967296)) (by kernel_rfl) (by kernel_rfl) (by kernel_rfl) (by kernel_rfl) (fun _ _ _ h => hp _ _ _ _ _ h) rfl (fun _ _ _ _ _ => by kernel_rfl) hS0 ?_
  refine wpAnyH_takeG (i := 7) (d := 34) (g := none) (op := (Op.binOp BinOp.shl 22 (Operand.tmp 33) (Operand.const (Value.int IntKind.u64 24)) 175)) (v := .int .u32 ((((sby s (0 + k * 4)).toNat : Int) % 4294967296) * 16777216 % 4294967296)) (by kernel_rfl) (by kernel_rfl) (by kernel_rfl) (by kernel_rfl) (fun _ _ _ h => hp _ _ _ _ _ h) rfl (fun _ _ _ _ _ => by kernel_rfl) hS0 ?_
  refine wpAnyH_takeG (i := 8) (d := 35) (g := none) (op := (Op.move (Operand.tmp 1))) (v := .string s) (by kernel_rfl) (by kernel_rfl) (by kernel_rfl) (by kernel_rfl) (fun _ _ _ h => hp _ _ _ _ _ h) rfl (fun _ _ _ _ _ => by kernel_rfl) hS0 ?_
  refine wpAnyH_takeG (i := 9) (d := 36) (g := none) (op := (Op.move (Operand.tmp 6))) (v := .int .i64 (k : Int)) (by kernel_rfl) (by kernel_rfl) (by kernel_rfl) (by kernel_rfl) (fun _ _ _ h => hp _ _ _ _ _ h) rfl (fun _ _ _ _ _ => by kernel_rfl) hS0 ?_
  refine wpAnyH_takeG (i := 10) (d := 37) (g := none) (op := (Op.binOp BinOp.mul 3 (Operand.const (Value.int IntKind.i64 4)) (Operand.tmp 36) 3)) (v := .int .i64 ((0 + k * 4 : Nat) : Int)) (by kernel_rfl) (by kernel_rfl) (by kernel_rfl) (by kernel_rfl) (fun _ _ _ h => hp _ _ _ _ _ h) rfl (fun ty pos af w2 _ => mul_run ty pos af (by kernel_rfl) (by kernel_rfl) e0 w2) hS0 ?_
  refine wpAnyH_takeG (i := 11) (d := 38) (g := none) (op := (Op.binOp BinOp.add 3 (Operand.tmp 37) (Operand.const (Value.int IntKind.i64 1)) 3)) (v := .int .i64 ((0 + (k * 4 + 1) : Nat) : Int)) (by kernel_rfl) (by kernel_rfl) (by kernel_rfl) (by kernel_rfl) (fun _ _ _ h => hp _ _ _ _ _ h) rfl (fun ty pos af w2 _ => add_run ty pos af (by kernel_rfl) (by kernel_rfl) e1 w2) hS0 ?_
  refine wpAnyH_takeG (i := 12) (d := 39) (g := none) (op := (Op.index 9 (Operand.tmp 35) (Operand.tmp 38))) (v := .int .u8 ((sby s (0 + (k * 4 + 1))).toNat : Int)) (by kernel_rfl) (by kernel_rfl) (by kernel_rfl) (by kernel_rfl) (fun _ _ _ h => hp _ _ _ _ _ h) rfl (fun ty pos af w2 _ => ix_run ty pos af (by kernel_rfl) (by kernel_rfl) w2 (strix s _ (by omega) w2)) hS0 ?_
  refine wpAnyH_takeG (i := 13) (d := 40) (g := none) (op := (Op.convert 5 22 (Operand.tmp 39))) (v := .int .u32 (((sby s (0 + (k * 4 + 1))).toNat : Int) % 4294967296)) (by kernel_rfl) (by kernel_rfl) (by kernel_rfl) (by kernel_rfl) (fun _ _ _ h => hp _ _ _ _ _ h) rfl (fun _ _ _ _ _ => by kernel_rfl) hS0 ?_
  refine wpAnyH_takeG (i := 14) (d := 41) (g := none) (op := (Op.binOp BinOp.shl 22 (Operand.tmp 40) (Operand.const (Value.int IntKind.u64 16)) 175)) (v := .int .u32 ((((sby s (0 + (k * 4 + 1))).toNat : Int) % 4294967296) * 65536 % 4294967296)) (by kernel_rfl) (by kernel_rfl) (by kernel_rfl) (by kernel_rfl) (fun _ _ _ h => hp _ _ _ _ _ h) rfl (fun _ _ _ _ _ => by kernel_rfl) hS0 ?_
  refine wpAnyH_takeG (i := 16) (d := 43) (g := none) (op := (Op.move (Operand.tmp 1))) (v := .string s) (by kernel_rfl) (by kernel_rfl) (by kernel_rfl) (by kernel_rfl) (fun _ _ _ h => hp _ _ _ _ _ h) rfl (fun _ _ _ _ _ => by kernel_rfl) hS0 ?_
  refine wpAnyH_takeG (i := 17) (d := 44) (g := none) (op := (Op.move (Operand.tmp 6))) (v := .int .i64 (k : Int)) (by kernel_rfl) (by kernel_rfl) (by kernel_rfl) (by kernel_rfl) (fun _ _ _ h => hp _ _ _ _ _ h) rfl (fun _ _ _ _ _ => by kernel_rfl) hS0 ?_
  refine wpAnyH_takeG (i := 18) (d := 45) (g := none) (op := (Op.binOp BinOp.mul 3 (Operand.const (Value.int IntKind.i64 4)) (Operand.tmp 44) 3)) (v := .int .i64 ((0 + k * 4 : Nat) : Int)) (by kernel_rfl) (by kernel_rfl) (by kernel_rfl) (by kernel_rfl) (fun _ _ _ h => hp _ _ _ _ _ h) rfl (fun ty pos af w2 _ => mul_run ty pos af (by kernel_rfl) (by kernel_rfl) e0 w2) hS0 ?_
  refine wpAnyH_takeG (i := 19) (d := 46) (g := none) (op := (Op.binOp BinOp.add 3 (Operand.tmp 45) (Operand.const (Value.int IntKind.i64 2)) 3)) (v := .int .i64 ((0 + (k * 4 + 2) : Nat) : Int)) (by kernel_rfl) (by kernel_rfl) (by kernel_rfl) (by kernel_rfl) (fun _ _ _ h => hp _ _ _ _ _ h) rfl (fun ty pos af w2 _ => add_run ty pos af (by kernel_rfl) (by kernel_rfl) e2 w2) hS0 ?_
  refine wpAnyH_takeG (i := 20) (d := 47) (g := none) (op := (Op.index 9 (Operand.tmp 43) (Operand.tmp 46))) (v := .int .u8 ((sby s (0 + (k * 4 + 2))).toNat : Int)) (by kernel_rfl) (by kernel_rfl) (by kernel_rfl) (by kernel_rfl) (fun _ _ _ h => hp _ _ _ _ _ h) rfl (fun ty pos af w2 _ => ix_run ty pos af (by kernel_rfl) (by kernel_rfl) w2 (strix s _ (by omega) w2)) hS0 ?_
  refine wpAnyH_takeG (i := 21) (d := 48) (g := none) (op := (Op.convert 5 22 (Operand.tmp 47))) (v := .int .u32 (((sby s (0 + (k * 4 + 2))).toNat : Int) % 4294967296)) (by kernel_rfl) (by kernel_rfl) (by kernel_rfl) (by kernel_rfl) (fun _ _ _ h => hp _ _ _ _ _ h) rfl (fun _ _ _ _ _ => by kernel_rfl) hS0 ?_
  refine wpAnyH_takeG (i := 22) (d := 49) (g := none) (op := (Op.binOp BinOp.shl 22 (Operand.tmp 48) (Operand.const (Value.int IntKind.u64 8)) 175)) (v := .int .u32 ((((sby s (0 + (k * 4 + 2))).toNat : Int) % 4294967296) * 256 % 4294967296)) (by kernel_rfl) (by kernel_rfl) (by kernel_rfl) (by kernel_rfl) (fun _ _ _ h => hp _ _ _ _ _ h) rfl (fun _ _ _ _ _ => by kernel_rfl) hS0 ?_
  refine wpAnyH_takeG (i := 24) (d := 51) (g := none) (op := (Op.move (Operand.tmp 1))) (v := .string s) (by kernel_rfl) (by kernel_rfl) (by kernel_rfl) (by kernel_rfl) (fun _ _ _ h => hp _ _ _ _ _ h) rfl (fun _ _ _ _ _ => by kernel_rfl) hS0 ?_
  refine wpAnyH_takeG (i := 25) (d := 52) (g := none) (op := (Op.move (Operand.tmp 6))) (v := .int .i64 (k : Int)) (by kernel_rfl) (by kernel_rfl) (by kernel_rfl) (by kernel_rfl) (fun _ _ _ h => hp _ _ _ _ _ h) rfl (fun _ _ _ _ _ => by kernel_rfl) hS0 ?_
  refine wpAnyH_takeG (i := 26) (d := 53) (g := none) (op := (Op.binOp BinOp.mul 3 (Operand.const (Value.int IntKind.i64 4)) (Operand.tmp 52) 3)) (v := .int .i64 ((0 + k * 4 : Nat) : Int)) (by kernel_rfl) (by kernel_rfl) (by kernel_rfl) (by kernel_rfl) (fun _ _ _ h => hp _ _ _ _ _ h) rfl (fun ty pos af w2 _ => mul_run ty pos af (by kernel_rfl) (by kernel_rfl) e0 w2) hS0 ?_
  refine wpAnyH_takeG (i := 27) (d := 54) (g := none) (op := (Op.binOp BinOp.add 3 (Operand.tmp 53) (Operand.const (Value.int IntKind.i64 3)) 3)) (v := .int .i64 ((0 + (k * 4 + 3) : Nat) : Int)) (by kernel_rfl) (by kernel_rfl) (by kernel_rfl) (by kernel_rfl) (fun _ _ _ h => hp _ _ _ _ _ h) rfl (fun ty pos af w2 _ => add_run ty pos af (by kernel_rfl) (by kernel_rfl) e3 w2) hS0 ?_
  refine wpAnyH_takeG (i := 28) (d := 55) (g := none) (op := (Op.index 9 (Operand.tmp 51) (Operand.tmp 54))) (v := .int .u8 ((sby s (0 + (k * 4 + 3))).toNat : Int)) (by kernel_rfl) (by kernel_rfl) (by kernel_rfl) (by kernel_rfl) (fun _ _ _ h => hp _ _ _ _ _ h) rfl (fun ty pos af w2 _ => ix_run ty pos af (by kernel_rfl) (by kernel_rfl) w2 (strix s _ (by omega) w2)) hS0 ?_
  refine wpAnyH_takeG (i := 29) (d := 56) (g := none) (op := (Op.convert 5 22 (Operand.tmp 55))) (v := .int .u32 (((sby s (0 + (k * 4 + 3))).toNat : Int) % 4294967296)) (by kernel_rfl) (by kernel_rfl) (by kernel_rfl) (by kernel_rfl) (fun _ _ _ h => hp _ _ _ _ _ h) rfl (fun _ _ _ _ _ => by kernel_rfl) hS0 ?_
  refine wpAnyH_takeG (i := 15) (d := 42) (g := none) (op := (Op.binOp BinOp.or 22 (Operand.tmp 34) (Operand.tmp 41) 22)) (v := .int .u32 (bits .or .u32 ((((sby s (0 + k * 4)).toNat : Int) % 4294967296) * 16777216 % 4294967296) ((((sby s (0 + (k * 4 + 1))).toNat : Int) % 4294967296) * 65536 % 4294967296))) (by kernel_rfl) (by kernel_rfl) (by kernel_rfl) (by kernel_rfl) (fun _ _ _ h => hp _ _ _ _ _ h) rfl (fun _ _ _ _ _ => by kernel_rfl) hS0 ?_
  refine wpAnyH_takeG (i := 23) (d := 50) (g := none) (op := (Op.binOp BinOp.or 22 (Operand.tmp 42) (Operand.tmp 49) 22)) (v := .int .u32 (bits .or .u32 (bits .or .u32 ((((sby s (0 + k * 4)).toNat : Int) % 4294967296) * 16777216 % 4294967296) ((((sby s (0 + (k * 4 + 1))).toNat : Int) % 4294967296) * 65536 % 4294967296)) ((((sby s (0 + (k * 4 + 2))).toNat : Int) % 4294967296) * 256 % 4294967296))) (by kernel_rfl) (by kernel_rfl) (by kernel_rfl) (by kernel_rfl) (fun _ _ _ h => hp _ _ _ _ _ h) rfl (fun _ _ _ _ _ => by kernel_rfl) hS0 ?_
  refine wpAnyH_takeG (i := 30) (d := 57) (g := none) (op := (Op.binOp BinOp.or 22 (Operand.tmp 50) (Operand.tmp 56) 22)) (v := .int .u32 (blkWord (sby s) 0 k)) (by kernel_rfl) (by kernel_rfl) (by kernel_rfl) (by kernel_rfl) (fun _ _ _ h => hp _ _ _ _ _ h) rfl (fun _ _ _ _ _ => by kernel_rfl) hS0 ?_
  refine wpAnyH_takeG (i := 31) (d := 58) (g := none) (op := (Op.indexAddr 106 (Operand.tmp 27) (Operand.tmp 28))) (v := .pointer (some ⟨g, k, none⟩)) (by kernel_rfl) (by kernel_rfl) (by kernel_rfl) (by kernel_rfl) (fun _ _ _ h => hp _ _ _ _ _ h) rfl (fun ty pos af w2 _ => idxh_run ty pos af (by kernel_rfl) (by kernel_rfl) w2 (idx106 64 hk64 w2)) hS0 ?_
  refine wpAnyH_store (i := 32) (t := 22) (x := (Operand.tmp 58)) (y := (Operand.tmp 57)) (p := ⟨g, k, none⟩) (u := .int .u32 (blkWord (sby s) 0 k)) (by kernel_rfl) (by kernel_rfl) (fun ty pos af => st_run ty pos af (by kernel_rfl) (by kernel_rfl) (w := w.drew) r f) trivial ?_
  refine wpAnyH_done (by kernel_rfl) ?_ 0
  simp only [Act.put, List.setIfInBounds_toArray, List.set_cons_zero, List.set_cons_succ]
  clear e0 e1 e2 e3 r f hs
  generalize hX : w.drew.setCell ⟨g, k, none⟩ (.int .u32 (blkWord (sby s) 0 k)) = X
  have HX := Lib.hid hX
  clear hX
  go_wp2_with fail
  refine ⟨⟨rfl, rfl, rfl, rfl, rfl, rfl⟩, HX.out.symm⟩
set_option maxHeartbeats 0 in
set_option maxRecDepth 1000000 in
theorem hb1_end (q : Nat) (s : ByteArray) (g : Nat) (u2 u3 u4 u7 u8 u9 u10 u11 u12 u13 u14 u15 u16 u17 u18 u19 u20 u21 u22 u23 u24 u25 u26 u27 u28 u29 u30 u31 u32 u33 u34 u35 u36 u37 u38 u39 u40 u41 u42 u43 u44 u45 u46 u47 u48 u49 u50 u51 u52 u53 u54 u55 u56 u57 u58 u59 u60 u61 u62 u63 u64 u65 u66 u67 u68 u69 u70 u71 u72 u73 u74 u75 u76 u77 u78 u79 u80 u81 u82 u83 u84 u85 u86 u87 u88 u89 u90 u91 u92 u93 u94 u95 u96 u97 u98 u99 u100 u101 u102 u103 u104 u105 u106 u107 u108 u109 u110 u111 u112 u113 u114 u115 u116 u117 u118 u119 u120 u121 u122 u123 u124 u125 u126 u127 u128 u129 u130 u131 u132 u133 u134 u135 u136 u137 u138 u139 u140 u141 u142 u143 u144 u145 u146 u147 u148 u149 u150 u151 u152 u153 u154 u155 u156 u157 u158 u159 u160 u161 u162 u163 u164 u165 u166 u167 u168 u169 u170 u171 u172 u173 u174 u175 u176 u177 u178 u179 u180 u181 u182 u183 u184 u185 u186 u187 u188 u189 u190 u191 u192 u193 u194 u195 u196 u197 u198 u199 u200 u201 u202 u203 u204 u205 u206 u207 u208 u209 u210 u211 u212 u213 u214 u215 u216 u217 u218 u219 u220 u221 u222 u223 u224 u225 u226 u227 u228 u229 u230 u231 u232 u233 u234 u235 u236 u237 u238 u239 u240 u241 u242 u243 u244 u245 u246 u247 u248 u249 u250 u251 : Value) (K : Act → World → Prop) (Q0 : Exit → Act → World → Prop) (w : World) (hq : ∀ a1, Hb1A q s g 16 a1 → Q0 (.exit 0) a1 w) :
    Code.wp Tryz.prog (hbBody 0) (Exit.then K Q0) ⟨#[.slice (some ⟨q, 0, none⟩) 8 8, .string s, u2, u3, u4, .slice (some ⟨g, 0, none⟩) 64 64, .int .i64 (16 : Int), u7, u8, u9, u10, u11, u12, u13, u14, u15, u16, u17, u18, u19, u20, u21, u22, u23, u24, u25, u26, u27, u28, u29, u30, u31, u32, u33, u34, u35, u36, u37, u38, u39, u40, u41, u42, u43, u44, u45, u46, u47, u48, u49, u50, u51, u52, u53, u54, u55, u56, u57, u58, u59, u60, u61, u62, u63, u64, u65, u66, u67, u68, u69, u70, u71, u72, u73, u74, u75, u76, u77, u78, u79, u80, u81, u82, u83, u84, u85, u86, u87, u88, u89, u90, u91, u92, u93, u94, u95, u96, u97, u98, u99, u100, u101, u102, u103, u104, u105, u106, u107, u108, u109, u110, u111, u112, u113, u114, u115, u116, u117, u118, u119, u120, u121, u122, u123, u124, u125, u126, u127, u128, u129, u130, u131, u132, u133, u134, u135, u136, u137, u138, u139, u140, u141, u142, u143, u144, u145, u146, u147, u148, u149, u150, u151, u152, u153, u154, u155, u156, u157, u158, u159, u160, u161, u162, u163, u164, u165, u166, u167, u168, u169, u170, u171, u172, u173, u174, u175, u176, u177, u178, u179, u180, u181, u182, u183, u184, u185, u186, u187, u188, u189, u190, u191, u192, u193, u194, u195, u196, u197, u198, u199, u200, u201, u202, u203, u204, u205, u206, u207, u208, u209, u210, u211, u212, u213, u214, u215, u216, u217, u218, u219, u220, u221, u222, u223, u224, u225, u226, u227, u228, u229, u230, u231, u232, u233, u234, u235, u236, u237, u238, u239, u240, u241, u242, u243, u244, u245, u246, u247, u248, u249, u250, u251], []⟩ w := by
  have HQ := Lib.hid hq
  clear hq
  conv => arg 2; whnf
  go_wp2_with fail
  exact HQ.out _ ⟨rfl, rfl, rfl, rfl, rfl, rfl⟩
def Hb1R (q : Nat) (s : ByteArray) (g : Nat) (w0 : World) (a : Act) (w : World) : Prop := ∃ k, k ≤ 16 ∧ Hb1A q s g k a ∧ HwM w0 g (blkWord (sby s) 0) k w
def Hb1Mu (a : Act) (_ : World) : Nat := 16 - (intOf (a.tmps.getD 6 undef)).toNat
theorem Hb1Mu_of {q g k : Nat} {s : ByteArray} {a : Act} {w : World} (hA : Hb1A q s g k a) : Hb1Mu a w = 16 - k := by
  unfold Hb1Mu
  rw [hA.e6]
  simp [intOf]
set_option maxHeartbeats 0 in
set_option maxRecDepth 1000000 in
theorem hb1_loop (q : Nat) (s : ByteArray) (g : Nat) (w0 : World) (hs : s.size = 64) (Q0 : Exit → Act → World → Prop) (hp : ∀ c a w (d : Tmp) v, Q0 (.panic c) (a.put (some d) v) w → Q0 (.panic c) a w) (hq : ∀ a w, Hb1A q s g 16 a → HwM w0 g (blkWord (sby s) 0) 16 w → Q0 (.exit 0) a w) (a : Act) (w : World) (hA : Hb1A q s g 0 a) (hM : HwM w0 g (blkWord (sby s) 0) 0 w) :
    Code.wp Tryz.prog (Code.loop (hbBody 0)) Q0 a w := by
  refine wp_loop (Hb1R q s g w0) Hb1Mu ⟨0, by omega, hA, hM⟩ ?_
  clear hA hM a w
  intro a w hI
  obtain ⟨k, hk, hA, hM⟩ := hI
  rw [Hb1Mu_of hA]
  by_cases h16 : k = 16
  · subst h16
    refine hA.elim (C := fun a => Code.wp Tryz.prog (hbBody 0) _ a w) ?_
    intro u2 u3 u4 u7 u8 u9 u10 u11 u12 u13 u14 u15 u16 u17 u18 u19 u20 u21 u22 u23 u24 u25 u26 u27 u28 u29 u30 u31 u32 u33 u34 u35 u36 u37 u38 u39 u40 u41 u42 u43 u44 u45 u46 u47 u48 u49 u50 u51 u52 u53 u54 u55 u56 u57 u58 u59 u60 u61 u62 u63 u64 u65 u66 u67 u68 u69 u70 u71 u72 u73 u74 u75 u76 u77 u78 u79 u80 u81 u82 u83 u84 u85 u86 u87 u88 u89 u90 u91 u92 u93 u94 u95 u96 u97 u98 u99 u100 u101 u102 u103 u104 u105 u106 u107 u108 u109 u110 u111 u112 u113 u114 u115 u116 u117 u118 u119 u120 u121 u122 u123 u124 u125 u126 u127 u128 u129 u130 u131 u132 u133 u134 u135 u136 u137 u138 u139 u140 u141 u142 u143 u144 u145 u146 u147 u148 u149 u150 u151 u152 u153 u154 u155 u156 u157 u158 u159 u160 u161 u162 u163 u164 u165 u166 u167 u168 u169 u170 u171 u172 u173 u174 u175 u176 u177 u178 u179 u180 u181 u182 u183 u184 u185 u186 u187 u188 u189 u190 u191 u192 u193 u194 u195 u196 u197 u198 u199 u200 u201 u202 u203 u204 u205 u206 u207 u208 u209 u210 u211 u212 u213 u214 u215 u216 u217 u218 u219 u220 u221 u222 u223 u224 u225 u226 u227 u228 u229 u230 u231 u232 u233 u234 u235 u236 u237 u238 u239 u240 u241 u242 u243 u244 u245 u246 u247 u248 u249 u250 u251
    exact hb1_end q s g _ _ _ _ _ _ _ _ _ _ _ _ _ _ _ _ _ _ _ _ _ _ _ _ _ _ _ _ _ _ _ _ _ _ _ _ _ _ _ _ _ _ _ _ _ _ _ _ _ _ _ _ _ _ _ _ _ _ _ _ _ _ _ _ _ _ _ _ _ _ _ _ _ _ _ _ _ _ _ _ _ _ _ _ _ _ _ _ _ _ _ _ _ _ _ _ _ _ _ _ _ _ _ _ _ _ _ _ _ _ _ _ _ _ _ _ _ _ _ _ _ _ _ _ _ _ _ _ _ _ _ _ _ _ _ _ _ _ _ _ _ _ _ _ _ _ _ _ _ _ _ _ _ _ _ _ _ _ _ _ _ _ _ _ _ _ _ _ _ _ _ _ _ _ _ _ _ _ _ _ _ _ _ _ _ _ _ _ _ _ _ _ _ _ _ _ _ _ _ _ _ _ _ _ _ _ _ _ _ _ _ _ _ _ _ _ _ _ _ _ _ _ _ _ _ _ _ _ _ _ _ _ _ _ _ _ _ _ _ _ _ _ _ _ _ _ _ _  _ Q0 w (fun a1 h1 => hq _ _ h1 hM)
  · have hlt : k < 16 := by omega
    obtain ⟨r0, hr⟩ := hM.any (j := k) (by omega)
    refine Code.wp_mono (Q := Exit.then (Hb1K q s g k w) Q0) ?_ ?_
    · intro e a' w' he
      cases e with
      | normal =>
        obtain ⟨h1, rfl⟩ := he
        refine ⟨⟨k + 1, by omega, h1, ?_⟩, ?_⟩
        · rw [← wd_lo (blkWord (sby s) 0) hlt]
          exact hM.step (by omega) (Below.refl _ _).drew
        · rw [Hb1Mu_of h1]
          omega
      | _ => exact he
    · refine hA.elim (C := fun a => Code.wp Tryz.prog (hbBody 0) _ a w) ?_
      intro u2 u3 u4 u7 u8 u9 u10 u11 u12 u13 u14 u15 u16 u17 u18 u19 u20 u21 u22 u23 u24 u25 u26 u27 u28 u29 u30 u31 u32 u33 u34 u35 u36 u37 u38 u39 u40 u41 u42 u43 u44 u45 u46 u47 u48 u49 u50 u51 u52 u53 u54 u55 u56 u57 u58 u59 u60 u61 u62 u63 u64 u65 u66 u67 u68 u69 u70 u71 u72 u73 u74 u75 u76 u77 u78 u79 u80 u81 u82 u83 u84 u85 u86 u87 u88 u89 u90 u91 u92 u93 u94 u95 u96 u97 u98 u99 u100 u101 u102 u103 u104 u105 u106 u107 u108 u109 u110 u111 u112 u113 u114 u115 u116 u117 u118 u119 u120 u121 u122 u123 u124 u125 u126 u127 u128 u129 u130 u131 u132 u133 u134 u135 u136 u137 u138 u139 u140 u141 u142 u143 u144 u145 u146 u147 u148 u149 u150 u151 u152 u153 u154 u155 u156 u157 u158 u159 u160 u161 u162 u163 u164 u165 u166 u167 u168 u169 u170 u171 u172 u173 u174 u175 u176 u177 u178 u179 u180 u181 u182 u183 u184 u185 u186 u187 u188 u189 u190 u191 u192 u193 u194 u195 u196 u197 u198 u199 u200 u201 u202 u203 u204 u205 u206 u207 u208 u209 u210 u211 u212 u213 u214 u215 u216 u217 u218 u219 u220 u221 u222 u223 u224 u225 u226 u227 u228 u229 u230 u231 u232 u233 u234 u235 u236 u237 u238 u239 u240 u241 u242 u243 u244 u245 u246 u247 u248 u249 u250 u251
      exact hb1_round q s g k _ _ _ _ _ _ _ _ _ _ _ _ _ _ _ _ _ _ _ _ _ _ _ _ _ _ _ _ _ _ _ _ _ _ _ _ _ _ _ _ _ _ _ _ _ _ _ _ _ _ _ _ _ _ _ _ _ _ _ _ _ _ _ _ _ _ _ _ _ _ _ _ _ _ _ _ _ _ _ _ _ _ _ _ _ _ _ _ _ _ _ _ _ _ _ _ _ _ _ _ _ _ _ _ _ _ _ _ _ _ _ _ _ _ _ _ _ _ _ _ _ _ _ _ _ _ _ _ _ _ _ _ _ _ _ _ _ _ _ _ _ _ _ _ _ _ _ _ _ _ _ _ _ _ _ _ _ _ _ _ _ _ _ _ _ _ _ _ _ _ _ _ _ _ _ _ _ _ _ _ _ _ _ _ _ _ _ _ _ _ _ _ _ _ _ _ _ _ _ _ _ _ _ _ _ _ _ _ _ _ _ _ _ _ _ _ _ _ _ _ _ _ _ _ _ _ _ _ _ _ _ _ _ _ _ _ _ _ _ _ _ _ _ _ _ _ _ _  Q0 hp w hs hlt r0 hr (hM.free k)
end Go.Proofs.YtgnmgkpfgmpdfaaGreatDoor
end

/- spec.helloBlock: the second loop. -/
section
namespace Go.Proofs.YtgnmgkpfgmpdfaaGreatDoor
open Go.RowKit

theorem frozen_below {w w' : World} {p : Addr} {r : Value} (h : Below w.heap.size w w') (hr : w.cell? p = some r) (hf : w.frozen? p = false) : w'.frozen? p = false := by
  have hb := h.block p.block (World.block_lt_of_cell? w p hr)
  unfold World.frozen? at hf ⊢
  rw [hb]
  exact hf
/-- What a round leaves. -/
def Hb2K (q g k : Nat) (v : Int) (w : World) (a : Act) (w1 : World) : Prop := Hb2A q g (k + 1) a ∧ ∃ wx, Below w.heap.size w wx ∧ w1 = wx.setCell ⟨g, k, none⟩ (.int .u32 v)
set_option maxHeartbeats 0 in
set_option maxRecDepth 1000000 in
theorem hb2_round (q g k : Nat) (u1 u2 u3 u4 u6 u8 u9 u10 u11 u12 u13 u14 u15 u16 u17 u18 u19 u20 u21 u22 u23 u24 u25 u26 u27 u28 u29 u30 u31 u32 u33 u34 u35 u36 u37 u38 u39 u40 u41 u42 u43 u44 u45 u46 u47 u48 u49 u50 u51 u52 u53 u54 u55 u56 u57 u58 u59 u60 u61 u62 u63 u64 u65 u66 u67 u68 u69 u70 u71 u72 u73 u74 u75 u76 u77 u78 u79 u80 u81 u82 u83 u84 u85 u86 u87 u88 u89 u90 u91 u92 u93 u94 u95 u96 u97 u98 u99 u100 u101 u102 u103 u104 u105 u106 u107 u108 u109 u110 u111 u112 u113 u114 u115 u116 u117 u118 u119 u120 u121 u122 u123 u124 u125 u126 u127 u128 u129 u130 u131 u132 u133 u134 u135 u136 u137 u138 u139 u140 u141 u142 u143 u144 u145 u146 u147 u148 u149 u150 u151 u152 u153 u154 u155 u156 u157 u158 u159 u160 u161 u162 u163 u164 u165 u166 u167 u168 u169 u170 u171 u172 u173 u174 u175 u176 u177 u178 u179 u180 u181 u182 u183 u184 u185 u186 u187 u188 u189 u190 u191 u192 u193 u194 u195 u196 u197 u198 u199 u200 u201 u202 u203 u204 u205 u206 u207 u208 u209 u210 u211 u212 u213 u214 u215 u216 u217 u218 u219 u220 u221 u222 u223 u224 u225 u226 u227 u228 u229 u230 u231 u232 u233 u234 u235 u236 u237 u238 u239 u240 u241 u242 u243 u244 u245 u246 u247 u248 u249 u250 u251 : Value) (Q0 : Exit → Act → World → Prop) (hp : ∀ c a w (d : Tmp) v, Q0 (.panic c) (a.put (some d) v) w → Q0 (.panic c) a w) (w : World) (hk : 16 ≤ k) (hk64 : k < 64) (v2 v7 v15 v16 : Int) (c2 : w.cell? ⟨g, k - 2, none⟩ = some (.int .u32 v2)) (c7 : w.cell? ⟨g, k - 7, none⟩ = some (.int .u32 v7)) (c15 : w.cell? ⟨g, k - 15, none⟩ = some (.int .u32 v15)) (c16 : w.cell? ⟨g, k - 16, none⟩ = some (.int .u32 v16))
    (r0 : Value) (r : w.cell? ⟨g, k, none⟩ = some r0) (f : w.frozen? ⟨g, k, none⟩ = false) :
    Code.wp Tryz.prog (hbBody 1) (Exit.then (Hb2K q g k (wordHi v2 v7 v15 v16) w) Q0) ⟨#[.slice (some ⟨q, 0, none⟩) 8 8, u1, u2, u3, u4, .slice (some ⟨g, 0, none⟩) 64 64, u6, .int .i64 (k : Int), u8, u9, u10, u11, u12, u13, u14, u15, u16, u17, u18, u19, u20, u21, u22, u23, u24, u25, u26, u27, u28, u29, u30, u31, u32, u33, u34, u35, u36, u37, u38, u39, u40, u41, u42, u43, u44, u45, u46, u47, u48, u49, u50, u51, u52, u53, u54, u55, u56, u57, u58, u59, u60, u61, u62, u63, u64, u65, u66, u67, u68, u69, u70, u71, u72, u73, u74, u75, u76, u77, u78, u79, u80, u81, u82, u83, u84, u85, u86, u87, u88, u89, u90, u91, u92, u93, u94, u95, u96, u97, u98, u99, u100, u101, u102, u103, u104, u105, u106, u107, u108, u109, u110, u111, u112, u113, u114, u115, u116, u117, u118, u119, u120, u121, u122, u123, u124, u125, u126, u127, u128, u129, u130, u131, u132, u133, u134, u135, u136, u137, u138, u139, u140, u141, u142, u143, u144, u145, u146, u147, u148, u149, u150, u151, u152, u153, u154, u155, u156, u157, u158, u159, u160, u161, u162, u163, u164, u165, u166, u167, u168, u169, u170, u171, u172, u173, u174, u175, u176, u177, u178, u179, u180, u181, u182, u183, u184, u185, u186, u187, u188, u189, u190, u191, u192, u193, u194, u195, u196, u197, u198, u199, u200, u201, u202, u203, u204, u205, u206, u207, u208, u209, u210, u211, u212, u213, u214, u215, u216, u217, u218, u219, u220, u221, u222, u223, u224, u225, u226, u227, u228, u229, u230, u231, u232, u233, u234, u235, u236, u237, u238, u239, u240, u241, u242, u243, u244, u245, u246, u247, u248, u249, u250, u251], []⟩ w := by
  conv => arg 2; whnf
  have gk : (k : Int) < 64 := by omega
  have m2 : IntKind.i64.wrap ((k : Int) - 2) = ((k - 2 : Nat) : Int) := by rw [IntKind.wrap_i64]; omega
  have m7 : IntKind.i64.wrap ((k : Int) - 7) = ((k - 7 : Nat) : Int) := by rw [IntKind.wrap_i64]; omega
  have m15 : IntKind.i64.wrap ((k : Int) - 15) = ((k - 15 : Nat) : Int) := by rw [IntKind.wrap_i64]; omega
  have m16 : IntKind.i64.wrap ((k : Int) - 16) = ((k - 16 : Nat) : Int) := by rw [IntKind.wrap_i64]; omega
  go_upto_region 9 with fail
  refine wp_region_held (S := fun w2 => Below w.heap.size w w2) (by kernel_rfl) ?_
  change wpAnyH _ _ _ _ _ 21 _ _ w.drew
  have hS0 : Below w.heap.size w w.drew := (Below.refl _ _).drew
  refine wpAnyH_takeG (i := 0) (d := 63) (g := none) (op := (Op.move (Operand.tmp 5))) (v := .slice (some ⟨g, 0, none⟩) 64 64) (by kernel_rfl) (by kernel_rfl) (by kernel_rfl) (by kernel_rfl) (fun _ _ _ h => hp _ _ _ _ _ h) rfl (fun _ _ _ _ _ => by kernel_rfl) hS0 ?_
  refine wpAnyH_takeG (i := 1) (d := 64) (g := none) (op := (Op.move (Operand.tmp 7))) (v := .int .i64 (k : Int)) (by kernel_rfl) (by kernel_rfl) (by kernel_rfl) (by kernel_rfl) (fun _ _ _ h => hp _ _ _ _ _ h) rfl (fun _ _ _ _ _ => by kernel_rfl) hS0 ?_
  refine wpAnyH_takeG (i := 2) (d := 65) (g := none) (op := (Op.binOp BinOp.sub 3 (Operand.tmp 64) (Operand.const (Value.int IntKind.i64 15)) 3)) (v := .int .i64 ((k - 15 : Nat) : Int)) (by kernel_rfl) (by kernel_rfl) (by kernel_rfl) (by kernel_rfl) (fun _ _ _ h => hp _ _ _ _ _ h) rfl (fun ty pos af w2 _ => sub_run ty pos af (by kernel_rfl) (by kernel_rfl) m15 w2) hS0 ?_
  refine wpAnyH_takeG (i := 3) (d := 66) (g := none) (op := (Op.indexAddr 106 (Operand.tmp 63) (Operand.tmp 65))) (v := .pointer (some ⟨g, k - 15, none⟩)) (by kernel_rfl) (by kernel_rfl) (by kernel_rfl) (by kernel_rfl) (fun _ _ _ h => hp _ _ _ _ _ h) rfl (fun ty pos af w2 _ => idxh_run ty pos af (by kernel_rfl) (by kernel_rfl) w2 (idx106 (k := k - 15) 64 (show k - 15 < 64 by omega) w2)) hS0 ?_
  refine wpAnyH_ldG (i := 4) (d := 67) (g := none) (t := 22) (x := (Operand.tmp 66)) (p := ⟨g, k - 15, none⟩) (u := .int .u32 v15) (by kernel_rfl) (by kernel_rfl) (by kernel_rfl) (by kernel_rfl) (fun _ _ _ h => hp _ _ _ _ _ h) rfl (by kernel_rfl) (fun w2 h1 => ld22h w2 _ _ (bcellv h1 c15)) hS0 ?_
  refine wpAnyH_takeG (i := 6) (d := 69) (g := none) (op := (Op.move (Operand.tmp 5))) (v := .slice (some ⟨g, 0, none⟩) 64 64) (by kernel_rfl) (by kernel_rfl) (by kernel_rfl) (by kernel_rfl) (fun _ _ _ h => hp _ _ _ _ _ h) rfl (fun _ _ _ _ _ => by kernel_rfl) hS0 ?_
  refine wpAnyH_takeG (i := 7) (d := 70) (g := none) (op := (Op.move (Operand.tmp 7))) (v := .int .i64 (k : Int)) (by kernel_rfl) (by kernel_rfl) (by kernel_rfl) (by kernel_rfl) (fun _ _ _ h => hp _ _ _ _ _ h) rfl (fun _ _ _ _ _ => by kernel_rfl) hS0 ?_
  refine wpAnyH_takeG (i := 8) (d := 71) (g := none) (op := (Op.binOp BinOp.sub 3 (Operand.tmp 70) (Operand.const (Value.int IntKind.i64 15)) 3)) (v := .int .i64 ((k - 15 : Nat) : Int)) (by kernel_rfl) (by kernel_rfl) (by kernel_rfl) (by kernel_rfl) (fun _ _ _ h => hp _ _ _ _ _ h) rfl (fun ty pos af w2 _ => sub_run ty pos af (by kernel_rfl) (by kernel_rfl) m15 w2) hS0 ?_
  refine wpAnyH_takeG (i := 9) (d := 72) (g := none) (op := (Op.indexAddr 106 (Operand.tmp 69) (Operand.tmp 71))) (v := .pointer (some ⟨g, k - 15, none⟩)) (by kernel_rfl) (by kernel_rfl) (by kernel_rfl) (by kernel_rfl) (fun _ _ _ h => hp _ _ _ _ _ h) rfl (fun ty pos af w2 _ => idxh_run ty pos af (by kernel_rfl) (by kernel_rfl) w2 (idx106 (k := k - 15) 64 (show k - 15 < 64 by omega) w2)) hS0 ?_
  refine wpAnyH_ldG (i := 10) (d := 73) (g := none) (t := 22) (x := (Operand.tmp 72)) (p := ⟨g, k - 15, none⟩) (u := .int .u32 v15) (by kernel_rfl) (by kernel_rfl) (by kernel_rfl) (by kernel_rfl) (fun _ _ _ h => hp _ _ _ _ _ h) rfl (by kernel_rfl) (fun w2 h1 => ld22h w2 _ _ (bcellv h1 c15)) hS0 ?_
  refine wpAnyH_takeG (i := 13) (d := 76) (g := none) (op := (Op.move (Operand.tmp 5))) (v := .slice (some ⟨g, 0, none⟩) 64 64) (by kernel_rfl) (by kernel_rfl) (by kernel_rfl) (by kernel_rfl) (fun _ _ _ h => hp _ _ _ _ _ h) rfl (fun _ _ _ _ _ => by kernel_rfl) hS0 ?_
  refine wpAnyH_takeG (i := 14) (d := 77) (g := none) (op := (Op.move (Operand.tmp 7))) (v := .int .i64 (k : Int)) (by kernel_rfl) (by kernel_rfl) (by kernel_rfl) (by kernel_rfl) (fun _ _ _ h => hp _ _ _ _ _ h) rfl (fun _ _ _ _ _ => by kernel_rfl) hS0 ?_
  refine wpAnyH_takeG (i := 15) (d := 78) (g := none) (op := (Op.binOp BinOp.sub 3 (Operand.tmp 77) (Operand.const (Value.int IntKind.i64 15)) 3)) (v := .int .i64 ((k - 15 : Nat) : Int)) (by kernel_rfl) (by kernel_rfl) (by kernel_rfl) (by kernel_rfl) (fun _ _ _ h => hp _ _ _ _ _ h) rfl (fun ty pos af w2 _ => sub_run ty pos af (by kernel_rfl) (by kernel_rfl) m15 w2) hS0 ?_
  refine wpAnyH_takeG (i := 16) (d := 79) (g := none) (op := (Op.indexAddr 106 (Operand.tmp 76) (Operand.tmp 78))) (v := .pointer (some ⟨g, k - 15, none⟩)) (by kernel_rfl) (by kernel_rfl) (by kernel_rfl) (by kernel_rfl) (fun _ _ _ h => hp _ _ _ _ _ h) rfl (fun ty pos af w2 _ => idxh_run ty pos af (by kernel_rfl) (by kernel_rfl) w2 (idx106 (k := k - 15) 64 (show k - 15 < 64 by omega) w2)) hS0 ?_
  refine wpAnyH_ldG (i := 17) (d := 80) (g := none) (t := 22) (x := (Operand.tmp 79)) (p := ⟨g, k - 15, none⟩) (u := .int .u32 v15) (by kernel_rfl) (by kernel_rfl) (by kernel_rfl) (by kernel_rfl) (fun _ _ _ h => hp _ _ _ _ _ h) rfl (by kernel_rfl) (fun w2 h1 => ld22h w2 _ _ (bcellv h1 c15)) hS0 ?_
  refine wpAnyH_takeG (i := 18) (d := 81) (g := none) (op := (Op.binOp BinOp.shr 22 (Operand.tmp 80) (Operand.const (Value.int IntKind.u64 3)) 175)) (v := .int .u32 (Int.fdiv v15 8)) (by kernel_rfl) (by kernel_rfl) (by kernel_rfl) (by kernel_rfl) (fun _ _ _ h => hp _ _ _ _ _ h) rfl (fun _ _ _ _ _ => by kernel_rfl) hS0 ?_
  refine wpAnyH_call (i := 5) (f := 83) (xs := #[(Operand.tmp 67), (Operand.const (Value.int IntKind.i64 7))]) (ats := #[22, 3]) (d := 68) (vs := #[.int .u32 v15, .int .i64 7]) (by kernel_rfl) (by kernel_rfl) (by kernel_rfl) (by kernel_rfl) ((turn7 v15 w.drew).mono ?_)
  rintro e x1 ⟨rfl, hb1⟩
  have hS1 : Below w.heap.size w x1 := hS0.trans (hb1.mono hS0.size)
  clear hb1
  refine ⟨_, rfl, hS1, ?_⟩
  refine wpAnyH_call (i := 11) (f := 83) (xs := #[(Operand.tmp 73), (Operand.const (Value.int IntKind.i64 18))]) (ats := #[22, 3]) (d := 74) (vs := #[.int .u32 v15, .int .i64 18]) (by kernel_rfl) (by kernel_rfl) (by kernel_rfl) (by kernel_rfl) ((turn18 v15 x1).mono ?_)
  rintro e x2 ⟨rfl, hb2⟩
  have hS2 : Below w.heap.size w x2 := hS1.trans (hb2.mono hS1.size)
  clear hb2
  refine ⟨_, rfl, hS2, ?_⟩
  refine wpAnyH_takeG (i := 12) (d := 75) (g := none) (op := (Op.binOp BinOp.xor 22 (Operand.tmp 68) (Operand.tmp 74) 22)) (v := .int .u32 (bits .xor .u32 (ror 33554432 128 v15) (ror 16384 262144 v15))) (by kernel_rfl) (by kernel_rfl) (by kernel_rfl) (by kernel_rfl) (fun _ _ _ h => hp _ _ _ _ _ h) rfl (fun _ _ _ _ _ => by kernel_rfl) hS2 ?_
  refine wpAnyH_takeG (i := 19) (d := 82) (g := none) (op := (Op.binOp BinOp.xor 22 (Operand.tmp 75) (Operand.tmp 81) 22)) (v := .int .u32 (bits .xor .u32 (bits .xor .u32 (ror 33554432 128 v15) (ror 16384 262144 v15)) (Int.fdiv v15 8))) (by kernel_rfl) (by kernel_rfl) (by kernel_rfl) (by kernel_rfl) (fun _ _ _ h => hp _ _ _ _ _ h) rfl (fun _ _ _ _ _ => by kernel_rfl) hS2 ?_
  refine wpAnyH_takeG (i := 20) (d := 8) (g := none) (op := (Op.assign (Operand.tmp 82))) (v := .int .u32 (bits .xor .u32 (bits .xor .u32 (ror 33554432 128 v15) (ror 16384 262144 v15)) (Int.fdiv v15 8))) (by kernel_rfl) (by kernel_rfl) (by kernel_rfl) (by kernel_rfl) (fun _ _ _ h => hp _ _ _ _ _ h) rfl (fun _ _ _ _ _ => by kernel_rfl) hS2 ?_
  refine wpAnyH_done (by kernel_rfl) ?_ 0
  simp only [Act.put, List.setIfInBounds_toArray, List.set_cons_zero, List.set_cons_succ]
  rw [Int.fdiv_eq_ediv_of_nonneg v15 (by decide : (0 : Int) ≤ 8)]
  have HS9 := Lib.hid hS2
  clear hS0 hS1 hS2
  generalize hLo : bits .xor .u32 (bits .xor .u32 (ror 33554432 128 v15) (ror 16384 262144 v15)) (v15 / 8) = Lo
  have HLO := Lib.hid hLo
  clear hLo
  have c2x := bcellv HS9.out c2
  go_upto_region 10 with fail
  refine wp_region_held (S := fun w2 => Below x2.heap.size x2 w2) (by kernel_rfl) ?_
  change wpAnyH _ _ _ _ _ 21 _ _ x2.drew
  have hS0 : Below x2.heap.size x2 x2.drew := (Below.refl _ _).drew
  refine wpAnyH_takeG (i := 0) (d := 83) (g := none) (op := (Op.move (Operand.tmp 5))) (v := .slice (some ⟨g, 0, none⟩) 64 64) (by kernel_rfl) (by kernel_rfl) (by kernel_rfl) (by kernel_rfl) (fun _ _ _ h => hp _ _ _ _ _ h) rfl (fun _ _ _ _ _ => by kernel_rfl) hS0 ?_
  refine wpAnyH_takeG (i := 1) (d := 84) (g := none) (op := (Op.move (Operand.tmp 7))) (v := .int .i64 (k : Int)) (by kernel_rfl) (by kernel_rfl) (by kernel_rfl) (by kernel_rfl) (fun _ _ _ h => hp _ _ _ _ _ h) rfl (fun _ _ _ _ _ => by kernel_rfl) hS0 ?_
  refine wpAnyH_takeG (i := 2) (d := 85) (g := none) (op := (Op.binOp BinOp.sub 3 (Operand.tmp 84) (Operand.const (Value.int IntKind.i64 2)) 3)) (v := .int .i64 ((k - 2 : Nat) : Int)) (by kernel_rfl) (by kernel_rfl) (by kernel_rfl) (by kernel_rfl) (fun _ _ _ h => hp _ _ _ _ _ h) rfl (fun ty pos af w2 _ => sub_run ty pos af (by kernel_rfl) (by kernel_rfl) m2 w2) hS0 ?_
  refine wpAnyH_takeG (i := 3) (d := 86) (g := none) (op := (Op.indexAddr 106 (Operand.tmp 83) (Operand.tmp 85))) (v := .pointer (some ⟨g, k - 2, none⟩)) (by kernel_rfl) (by kernel_rfl) (by kernel_rfl) (by kernel_rfl) (fun _ _ _ h => hp _ _ _ _ _ h) rfl (fun ty pos af w2 _ => idxh_run ty pos af (by kernel_rfl) (by kernel_rfl) w2 (idx106 (k := k - 2) 64 (show k - 2 < 64 by omega) w2)) hS0 ?_
  refine wpAnyH_ldG (i := 4) (d := 87) (g := none) (t := 22) (x := (Operand.tmp 86)) (p := ⟨g, k - 2, none⟩) (u := .int .u32 v2) (by kernel_rfl) (by kernel_rfl) (by kernel_rfl) (by kernel_rfl) (fun _ _ _ h => hp _ _ _ _ _ h) rfl (by kernel_rfl) (fun w2 h1 => ld22h w2 _ _ (bcellv h1 c2x)) hS0 ?_
  refine wpAnyH_takeG (i := 6) (d := 89) (g := none) (op := (Op.move (Operand.tmp 5))) (v := .slice (some ⟨g, 0, none⟩) 64 64) (by kernel_rfl) (by kernel_rfl) (by kernel_rfl) (by kernel_rfl) (fun _ _ _ h => hp _ _ _ _ _ h) rfl (fun _ _ _ _ _ => by kernel_rfl) hS0 ?_
  refine wpAnyH_takeG (i := 7) (d := 90) (g := none) (op := (Op.move (Operand.tmp 7))) (v := .int .i64 (k : Int)) (by kernel_rfl) (by kernel_rfl) (by kernel_rfl) (by kernel_rfl) (fun _ _ _ h => hp _ _ _ _ _ h) rfl (fun _ _ _ _ _ => by kernel_rfl) hS0 ?_
  refine wpAnyH_takeG (i := 8) (d := 91) (g := none) (op := (Op.binOp BinOp.sub 3 (Operand.tmp 90) (Operand.const (Value.int IntKind.i64 2)) 3)) (v := .int .i64 ((k - 2 : Nat) : Int)) (by kernel_rfl) (by kernel_rfl) (by kernel_rfl) (by kernel_rfl) (fun _ _ _ h => hp _ _ _ _ _ h) rfl (fun ty pos af w2 _ => sub_run ty pos af (by kernel_rfl) (by kernel_rfl) m2 w2) hS0 ?_
  refine wpAnyH_takeG (i := 9) (d := 92) (g := none) (op := (Op.indexAddr 106 (Operand.tmp 89) (Operand.tmp 91))) (v := .pointer (some ⟨g, k - 2, none⟩)) (by kernel_rfl) (by kernel_rfl) (by kernel_rfl) (by kernel_rfl) (fun _ _ _ h => hp _ _ _ _ _ h) rfl (fun ty pos af w2 _ => idxh_run ty pos af (by kernel_rfl) (by kernel_rfl) w2 (idx106 (k := k - 2) 64 (show k - 2 < 64 by omega) w2)) hS0 ?_
  refine wpAnyH_ldG (i := 10) (d := 93) (g := none) (t := 22) (x := (Operand.tmp 92)) (p := ⟨g, k - 2, none⟩) (u := .int .u32 v2) (by kernel_rfl) (by kernel_rfl) (by kernel_rfl) (by kernel_rfl) (fun _ _ _ h => hp _ _ _ _ _ h) rfl (by kernel_rfl) (fun w2 h1 => ld22h w2 _ _ (bcellv h1 c2x)) hS0 ?_
  refine wpAnyH_takeG (i := 13) (d := 96) (g := none) (op := (Op.move (Operand.tmp 5))) (v := .slice (some ⟨g, 0, none⟩) 64 64) (by kernel_rfl) (by kernel_rfl) (by kernel_rfl) (by kernel_rfl) (fun _ _ _ h => hp _ _ _ _ _ h) rfl (fun _ _ _ _ _ => by kernel_rfl) hS0 ?_
  refine wpAnyH_takeG (i := 14) (d := 97) (g := none) (op := (Op.move (Operand.tmp 7))) (v := .int .i64 (k : Int)) (by kernel_rfl) (by kernel_rfl) (by kernel_rfl) (by kernel_rfl) (fun _ _ _ h => hp _ _ _ _ _ h) rfl (fun _ _ _ _ _ => by kernel_rfl) hS0 ?_
  refine wpAnyH_takeG (i := 15) (d := 98) (g := none) (op := (Op.binOp BinOp.sub 3 (Operand.tmp 97) (Operand.const (Value.int IntKind.i64 2)) 3)) (v := .int .i64 ((k - 2 : Nat) : Int)) (by kernel_rfl) (by kernel_rfl) (by kernel_rfl) (by kernel_rfl) (fun _ _ _ h => hp _ _ _ _ _ h) rfl (fun ty pos af w2 _ => sub_run ty pos af (by kernel_rfl) (by kernel_rfl) m2 w2) hS0 ?_
  refine wpAnyH_takeG (i := 16) (d := 99) (g := none) (op := (Op.indexAddr 106 (Operand.tmp 96) (Operand.tmp 98))) (v := .pointer (some ⟨g, k - 2, none⟩)) (by kernel_rfl) (by kernel_rfl) (by kernel_rfl) (by kernel_rfl) (fun _ _ _ h => hp _ _ _ _ _ h) rfl (fun ty pos af w2 _ => idxh_run ty pos af (by kernel_rfl) (by kernel_rfl) w2 (idx106 (k := k - 2) 64 (show k - 2 < 64 by omega) w2)) hS0 ?_
  refine wpAnyH_ldG (i := 17) (d := 100) (g := none) (t := 22) (x := (Operand.tmp 99)) (p := ⟨g, k - 2, none⟩) (u := .int .u32 v2) (by kernel_rfl) (by kernel_rfl) (by kernel_rfl) (by kernel_rfl) (fun _ _ _ h => hp _ _ _ _ _ h) rfl (by kernel_rfl) (fun w2 h1 => ld22h w2 _ _ (bcellv h1 c2x)) hS0 ?_
  refine wpAnyH_takeG (i := 18) (d := 101) (g := none) (op := (Op.binOp BinOp.shr 22 (Operand.tmp 100) (Operand.const (Value.int IntKind.u64 10)) 175)) (v := .int .u32 (Int.fdiv v2 1024)) (by kernel_rfl) (by kernel_rfl) (by kernel_rfl) (by kernel_rfl) (fun _ _ _ h => hp _ _ _ _ _ h) rfl (fun _ _ _ _ _ => by kernel_rfl) hS0 ?_
  refine wpAnyH_call (i := 5) (f := 83) (xs := #[(Operand.tmp 87), (Operand.const (Value.int IntKind.i64 17))]) (ats := #[22, 3]) (d := 88) (vs := #[.int .u32 v2, .int .i64 17]) (by kernel_rfl) (by kernel_rfl) (by kernel_rfl) (by kernel_rfl) ((turn17 v2 x2.drew).mono ?_)
  rintro e y1 ⟨rfl, hb1⟩
  have hS1 : Below x2.heap.size x2 y1 := hS0.trans (hb1.mono hS0.size)
  clear hb1
  refine ⟨_, rfl, hS1, ?_⟩
  refine wpAnyH_call (i := 11) (f := 83) (xs := #[(Operand.tmp 93), (Operand.const (Value.int IntKind.i64 19))]) (ats := #[22, 3]) (d := 94) (vs := #[.int .u32 v2, .int .i64 19]) (by kernel_rfl) (by kernel_rfl) (by kernel_rfl) (by kernel_rfl) ((turn19 v2 y1).mono ?_)
  rintro e y2 ⟨rfl, hb2⟩
  have hS2 : Below x2.heap.size x2 y2 := hS1.trans (hb2.mono hS1.size)
  clear hb2
  refine ⟨_, rfl, hS2, ?_⟩
  refine wpAnyH_takeG (i := 12) (d := 95) (g := none) (op := (Op.binOp BinOp.xor 22 (Operand.tmp 88) (Operand.tmp 94) 22)) (v := .int .u32 (bits .xor .u32 (ror 32768 131072 v2) (ror 8192 524288 v2))) (by kernel_rfl) (by kernel_rfl) (by kernel_rfl) (by kernel_rfl) (fun _ _ _ h => hp _ _ _ _ _ h) rfl (fun _ _ _ _ _ => by kernel_rfl) hS2 ?_
  refine wpAnyH_takeG (i := 19) (d := 102) (g := none) (op := (Op.binOp BinOp.xor 22 (Operand.tmp 95) (Operand.tmp 101) 22)) (v := .int .u32 (bits .xor .u32 (bits .xor .u32 (ror 32768 131072 v2) (ror 8192 524288 v2)) (Int.fdiv v2 1024))) (by kernel_rfl) (by kernel_rfl) (by kernel_rfl) (by kernel_rfl) (fun _ _ _ h => hp _ _ _ _ _ h) rfl (fun _ _ _ _ _ => by kernel_rfl) hS2 ?_
  refine wpAnyH_takeG (i := 20) (d := 9) (g := none) (op := (Op.assign (Operand.tmp 102))) (v := .int .u32 (bits .xor .u32 (bits .xor .u32 (ror 32768 131072 v2) (ror 8192 524288 v2)) (Int.fdiv v2 1024))) (by kernel_rfl) (by kernel_rfl) (by kernel_rfl) (by kernel_rfl) (fun _ _ _ h => hp _ _ _ _ _ h) rfl (fun _ _ _ _ _ => by kernel_rfl) hS2 ?_
  refine wpAnyH_done (by kernel_rfl) ?_ 0
  simp only [Act.put, List.setIfInBounds_toArray, List.set_cons_zero, List.set_cons_succ]
  rw [Int.fdiv_eq_ediv_of_nonneg v2 (by decide : (0 : Int) ≤ 1024)]
  have HS10 := Lib.hid hS2
  clear hS0 hS1 hS2
  have HY := Lib.hid (HS9.out.trans (HS10.out.mono HS9.out.size))
  generalize hH : bits .xor .u32 (bits .xor .u32 (ror 32768 131072 v2) (ror 8192 524288 v2)) (v2 / 1024) = H
  have HH := Lib.hid hH
  clear hH c2x HS9 HS10
  go_upto_region 11 with fail
  refine wp_region_held (S := fun w2 => ∀ j v, w.cell? ⟨g, j, none⟩ = some v → j ≠ k → w2.cell? ⟨g, j, none⟩ = some v) (by kernel_rfl) ?_
  change wpAnyH _ _ _ _ _ 19 _ _ y2.drew
  have hS5 : ∀ j v, w.cell? ⟨g, j, none⟩ = some v → j ≠ k → y2.drew.cell? ⟨g, j, none⟩ = some v := fun j v h _ => bcellv HY.out.drew h
  refine wpAnyH_takeG (i := 0) (d := 103) (g := none) (op := (Op.move (Operand.tmp 5))) (v := .slice (some ⟨g, 0, none⟩) 64 64) (by kernel_rfl) (by kernel_rfl) (by kernel_rfl) (by kernel_rfl) (fun _ _ _ h => hp _ _ _ _ _ h) rfl (fun _ _ _ _ _ => by kernel_rfl) hS5 ?_
  refine wpAnyH_takeG (i := 1) (d := 104) (g := none) (op := (Op.move (Operand.tmp 7))) (v := .int .i64 (k : Int)) (by kernel_rfl) (by kernel_rfl) (by kernel_rfl) (by kernel_rfl) (fun _ _ _ h => hp _ _ _ _ _ h) rfl (fun _ _ _ _ _ => by kernel_rfl) hS5 ?_
  refine wpAnyH_takeG (i := 2) (d := 105) (g := none) (op := (Op.move (Operand.tmp 9))) (v := .int .u32 H) (by kernel_rfl) (by kernel_rfl) (by kernel_rfl) (by kernel_rfl) (fun _ _ _ h => hp _ _ _ _ _ h) rfl (fun _ _ _ _ _ => by kernel_rfl) hS5 ?_
  refine wpAnyH_takeG (i := 3) (d := 106) (g := none) (op := (Op.move (Operand.tmp 5))) (v := .slice (some ⟨g, 0, none⟩) 64 64) (by kernel_rfl) (by kernel_rfl) (by kernel_rfl) (by kernel_rfl) (fun _ _ _ h => hp _ _ _ _ _ h) rfl (fun _ _ _ _ _ => by kernel_rfl) hS5 ?_
  refine wpAnyH_takeG (i := 4) (d := 107) (g := none) (op := (Op.move (Operand.tmp 7))) (v := .int .i64 (k : Int)) (by kernel_rfl) (by kernel_rfl) (by kernel_rfl) (by kernel_rfl) (fun _ _ _ h => hp _ _ _ _ _ h) rfl (fun _ _ _ _ _ => by kernel_rfl) hS5 ?_
  refine wpAnyH_takeG (i := 5) (d := 108) (g := none) (op := (Op.binOp BinOp.sub 3 (Operand.tmp 107) (Operand.const (Value.int IntKind.i64 7)) 3)) (v := .int .i64 ((k - 7 : Nat) : Int)) (by kernel_rfl) (by kernel_rfl) (by kernel_rfl) (by kernel_rfl) (fun _ _ _ h => hp _ _ _ _ _ h) rfl (fun ty pos af w2 _ => sub_run ty pos af (by kernel_rfl) (by kernel_rfl) m7 w2) hS5 ?_
  refine wpAnyH_takeG (i := 6) (d := 109) (g := none) (op := (Op.indexAddr 106 (Operand.tmp 106) (Operand.tmp 108))) (v := .pointer (some ⟨g, k - 7, none⟩)) (by kernel_rfl) (by kernel_rfl) (by kernel_rfl) (by kernel_rfl) (fun _ _ _ h => hp _ _ _ _ _ h) rfl (fun ty pos af w2 _ => idxh_run ty pos af (by kernel_rfl) (by kernel_rfl) w2 (idx106 (k := k - 7) 64 (show k - 7 < 64 by omega) w2)) hS5 ?_
  refine wpAnyH_ldG (i := 7) (d := 110) (g := none) (t := 22) (x := (Operand.tmp 109)) (p := ⟨g, k - 7, none⟩) (u := .int .u32 v7) (by kernel_rfl) (by kernel_rfl) (by kernel_rfl) (by kernel_rfl) (fun _ _ _ h => hp _ _ _ _ _ h) rfl (by kernel_rfl) (fun w2 h1 => ld22h w2 _ _ (h1 _ _ c7 (by omega))) hS5 ?_
  refine wpAnyH_takeG (i := 11) (d := 114) (g := none) (op := (Op.move (Operand.tmp 5))) (v := .slice (some ⟨g, 0, none⟩) 64 64) (by kernel_rfl) (by kernel_rfl) (by kernel_rfl) (by kernel_rfl) (fun _ _ _ h => hp _ _ _ _ _ h) rfl (fun _ _ _ _ _ => by kernel_rfl) hS5 ?_
  refine wpAnyH_takeG (i := 12) (d := 115) (g := none) (op := (Op.move (Operand.tmp 7))) (v := .int .i64 (k : Int)) (by kernel_rfl) (by kernel_rfl) (by kernel_rfl) (by kernel_rfl) (fun _ _ _ h => hp _ _ _ _ _ h) rfl (fun _ _ _ _ _ => by kernel_rfl) hS5 ?_
  refine wpAnyH_takeG (i := 13) (d := 116) (g := none) (op := (Op.binOp BinOp.sub 3 (Operand.tmp 115) (Operand.const (Value.int IntKind.i64 16)) 3)) (v := .int .i64 ((k - 16 : Nat) : Int)) (by kernel_rfl) (by kernel_rfl) (by kernel_rfl) (by kernel_rfl) (fun _ _ _ h => hp _ _ _ _ _ h) rfl (fun ty pos af w2 _ => sub_run ty pos af (by kernel_rfl) (by kernel_rfl) m16 w2) hS5 ?_
  refine wpAnyH_takeG (i := 14) (d := 117) (g := none) (op := (Op.indexAddr 106 (Operand.tmp 114) (Operand.tmp 116))) (v := .pointer (some ⟨g, k - 16, none⟩)) (by kernel_rfl) (by kernel_rfl) (by kernel_rfl) (by kernel_rfl) (fun _ _ _ h => hp _ _ _ _ _ h) rfl (fun ty pos af w2 _ => idxh_run ty pos af (by kernel_rfl) (by kernel_rfl) w2 (idx106 (k := k - 16) 64 (show k - 16 < 64 by omega) w2)) hS5 ?_
  refine wpAnyH_ldG (i := 15) (d := 118) (g := none) (t := 22) (x := (Operand.tmp 117)) (p := ⟨g, k - 16, none⟩) (u := .int .u32 v16) (by kernel_rfl) (by kernel_rfl) (by kernel_rfl) (by kernel_rfl) (fun _ _ _ h => hp _ _ _ _ _ h) rfl (by kernel_rfl) (fun w2 h1 => ld22h w2 _ _ (h1 _ _ c16 (by omega))) hS5 ?_
  refine wpAnyH_takeG (i := 8) (d := 111) (g := none) (op := (Op.binOp BinOp.add 22 (Operand.tmp 105) (Operand.tmp 110) 22)) (v := .int .u32 ((H + v7) % 4294967296)) (by kernel_rfl) (by kernel_rfl) (by kernel_rfl) (by kernel_rfl) (fun _ _ _ h => hp _ _ _ _ _ h) rfl (fun _ _ _ _ _ => by kernel_rfl) hS5 ?_
  refine wpAnyH_takeG (i := 9) (d := 112) (g := none) (op := (Op.move (Operand.tmp 8))) (v := .int .u32 Lo) (by kernel_rfl) (by kernel_rfl) (by kernel_rfl) (by kernel_rfl) (fun _ _ _ h => hp _ _ _ _ _ h) rfl (fun _ _ _ _ _ => by kernel_rfl) hS5 ?_
  refine wpAnyH_takeG (i := 10) (d := 113) (g := none) (op := (Op.binOp BinOp.add 22 (Operand.tmp 111) (Operand.tmp 112) 22)) (v := .int .u32 (((H + v7) % 4294967296 + Lo) % 4294967296)) (by kernel_rfl) (by kernel_rfl) (by kernel_rfl) (by kernel_rfl) (fun _ _ _ h => hp _ _ _ _ _ h) rfl (fun _ _ _ _ _ => by kernel_rfl) hS5 ?_
  refine wpAnyH_takeG (i := 16) (d := 119) (g := none) (op := (Op.binOp BinOp.add 22 (Operand.tmp 113) (Operand.tmp 118) 22)) (v := .int .u32 ((((H + v7) % 4294967296 + Lo) % 4294967296 + v16) % 4294967296)) (by kernel_rfl) (by kernel_rfl) (by kernel_rfl) (by kernel_rfl) (fun _ _ _ h => hp _ _ _ _ _ h) rfl (fun _ _ _ _ _ => by kernel_rfl) hS5 ?_
  refine wpAnyH_takeG (i := 17) (d := 120) (g := none) (op := (Op.indexAddr 106 (Operand.tmp 103) (Operand.tmp 104))) (v := .pointer (some ⟨g, k, none⟩)) (by kernel_rfl) (by kernel_rfl) (by kernel_rfl) (by kernel_rfl) (fun _ _ _ h => hp _ _ _ _ _ h) rfl (fun ty pos af w2 _ => idxh_run ty pos af (by kernel_rfl) (by kernel_rfl) w2 (idx106 64 hk64 w2)) hS5 ?_
  refine wpAnyH_store (i := 18) (t := 22) (x := (Operand.tmp 120)) (y := (Operand.tmp 119)) (p := ⟨g, k, none⟩) (u := .int .u32 ((((H + v7) % 4294967296 + Lo) % 4294967296 + v16) % 4294967296)) (by kernel_rfl) (by kernel_rfl) (fun ty pos af => st_run ty pos af (by kernel_rfl) (by kernel_rfl) (w := y2.drew) (bcellv HY.out.drew r) (frozen_below HY.out.drew r f)) (fun j v h hj => ?_) ?_
  · rw [World.cell?_setCell_other _ _ _ _ (by intro h; simp only [Addr.mk.injEq] at h; omega)]
    exact hS5 j v h hj
  refine wpAnyH_done (by kernel_rfl) ?_ 0
  simp only [Act.put, List.setIfInBounds_toArray, List.set_cons_zero, List.set_cons_succ]
  clear hS5 m2 m7 m15 m16 c2 c7 c15 c16 r f
  have hv : ((((H + v7) % 4294967296 + Lo) % 4294967296 + v16) % 4294967296) = wordHi v2 v7 v15 v16 := by rw [← HH.out, ← HLO.out]; rfl
  rw [hv]
  clear hv HH HLO
  generalize hX : y2.drew.setCell ⟨g, k, none⟩ (.int .u32 (wordHi v2 v7 v15 v16)) = X
  have HX := Lib.hid hX
  clear hX
  go_wp2_with fail
  exact ⟨⟨rfl, rfl, rfl, rfl, rfl⟩, _, HY.out.drew, HX.out.symm⟩
set_option maxHeartbeats 0 in
set_option maxRecDepth 1000000 in
theorem hb2_end (q g : Nat) (u1 u2 u3 u4 u6 u8 u9 u10 u11 u12 u13 u14 u15 u16 u17 u18 u19 u20 u21 u22 u23 u24 u25 u26 u27 u28 u29 u30 u31 u32 u33 u34 u35 u36 u37 u38 u39 u40 u41 u42 u43 u44 u45 u46 u47 u48 u49 u50 u51 u52 u53 u54 u55 u56 u57 u58 u59 u60 u61 u62 u63 u64 u65 u66 u67 u68 u69 u70 u71 u72 u73 u74 u75 u76 u77 u78 u79 u80 u81 u82 u83 u84 u85 u86 u87 u88 u89 u90 u91 u92 u93 u94 u95 u96 u97 u98 u99 u100 u101 u102 u103 u104 u105 u106 u107 u108 u109 u110 u111 u112 u113 u114 u115 u116 u117 u118 u119 u120 u121 u122 u123 u124 u125 u126 u127 u128 u129 u130 u131 u132 u133 u134 u135 u136 u137 u138 u139 u140 u141 u142 u143 u144 u145 u146 u147 u148 u149 u150 u151 u152 u153 u154 u155 u156 u157 u158 u159 u160 u161 u162 u163 u164 u165 u166 u167 u168 u169 u170 u171 u172 u173 u174 u175 u176 u177 u178 u179 u180 u181 u182 u183 u184 u185 u186 u187 u188 u189 u190 u191 u192 u193 u194 u195 u196 u197 u198 u199 u200 u201 u202 u203 u204 u205 u206 u207 u208 u209 u210 u211 u212 u213 u214 u215 u216 u217 u218 u219 u220 u221 u222 u223 u224 u225 u226 u227 u228 u229 u230 u231 u232 u233 u234 u235 u236 u237 u238 u239 u240 u241 u242 u243 u244 u245 u246 u247 u248 u249 u250 u251 : Value) (K : Act → World → Prop) (Q0 : Exit → Act → World → Prop) (w : World) (hq : ∀ a1, Hb2A q g 64 a1 → Q0 (.exit 2) a1 w) :
    Code.wp Tryz.prog (hbBody 1) (Exit.then K Q0) ⟨#[.slice (some ⟨q, 0, none⟩) 8 8, u1, u2, u3, u4, .slice (some ⟨g, 0, none⟩) 64 64, u6, .int .i64 (64 : Int), u8, u9, u10, u11, u12, u13, u14, u15, u16, u17, u18, u19, u20, u21, u22, u23, u24, u25, u26, u27, u28, u29, u30, u31, u32, u33, u34, u35, u36, u37, u38, u39, u40, u41, u42, u43, u44, u45, u46, u47, u48, u49, u50, u51, u52, u53, u54, u55, u56, u57, u58, u59, u60, u61, u62, u63, u64, u65, u66, u67, u68, u69, u70, u71, u72, u73, u74, u75, u76, u77, u78, u79, u80, u81, u82, u83, u84, u85, u86, u87, u88, u89, u90, u91, u92, u93, u94, u95, u96, u97, u98, u99, u100, u101, u102, u103, u104, u105, u106, u107, u108, u109, u110, u111, u112, u113, u114, u115, u116, u117, u118, u119, u120, u121, u122, u123, u124, u125, u126, u127, u128, u129, u130, u131, u132, u133, u134, u135, u136, u137, u138, u139, u140, u141, u142, u143, u144, u145, u146, u147, u148, u149, u150, u151, u152, u153, u154, u155, u156, u157, u158, u159, u160, u161, u162, u163, u164, u165, u166, u167, u168, u169, u170, u171, u172, u173, u174, u175, u176, u177, u178, u179, u180, u181, u182, u183, u184, u185, u186, u187, u188, u189, u190, u191, u192, u193, u194, u195, u196, u197, u198, u199, u200, u201, u202, u203, u204, u205, u206, u207, u208, u209, u210, u211, u212, u213, u214, u215, u216, u217, u218, u219, u220, u221, u222, u223, u224, u225, u226, u227, u228, u229, u230, u231, u232, u233, u234, u235, u236, u237, u238, u239, u240, u241, u242, u243, u244, u245, u246, u247, u248, u249, u250, u251], []⟩ w := by
  have HQ := Lib.hid hq
  clear hq
  conv => arg 2; whnf
  go_wp2_with fail
  exact HQ.out _ ⟨rfl, rfl, rfl, rfl, rfl⟩
def Hb2R (q g : Nat) (m : Nat → Int) (w0 : World) (a : Act) (w : World) : Prop := ∃ k, 16 ≤ k ∧ k ≤ 64 ∧ Hb2A q g k a ∧ HwM w0 g m k w
def Hb2Mu (a : Act) (_ : World) : Nat := 64 - (intOf (a.tmps.getD 7 undef)).toNat
theorem Hb2Mu_of {q g k : Nat} {a : Act} {w : World} (hA : Hb2A q g k a) : Hb2Mu a w = 64 - k := by
  unfold Hb2Mu
  rw [hA.e7]
  simp [intOf]
set_option maxHeartbeats 0 in
set_option maxRecDepth 1000000 in
theorem hb2_loop (q g : Nat) (m : Nat → Int) (w0 : World) (Q0 : Exit → Act → World → Prop) (hp : ∀ c a w (d : Tmp) v, Q0 (.panic c) (a.put (some d) v) w → Q0 (.panic c) a w) (hq : ∀ a w, Hb2A q g 64 a → HwM w0 g m 64 w → Q0 (.exit 2) a w) (a : Act) (w : World) (hA : Hb2A q g 16 a) (hM : HwM w0 g m 16 w) :
    Code.wp Tryz.prog (Code.loop (hbBody 1)) Q0 a w := by
  refine wp_loop (Hb2R q g m w0) Hb2Mu ⟨16, by omega, by omega, hA, hM⟩ ?_
  clear hA hM a w
  intro a w hI
  obtain ⟨k, hk16, hk, hA, hM⟩ := hI
  rw [Hb2Mu_of hA]
  by_cases h64 : k = 64
  · subst h64
    refine hA.elim (C := fun a => Code.wp Tryz.prog (hbBody 1) _ a w) ?_
    intro u1 u2 u3 u4 u6 u8 u9 u10 u11 u12 u13 u14 u15 u16 u17 u18 u19 u20 u21 u22 u23 u24 u25 u26 u27 u28 u29 u30 u31 u32 u33 u34 u35 u36 u37 u38 u39 u40 u41 u42 u43 u44 u45 u46 u47 u48 u49 u50 u51 u52 u53 u54 u55 u56 u57 u58 u59 u60 u61 u62 u63 u64 u65 u66 u67 u68 u69 u70 u71 u72 u73 u74 u75 u76 u77 u78 u79 u80 u81 u82 u83 u84 u85 u86 u87 u88 u89 u90 u91 u92 u93 u94 u95 u96 u97 u98 u99 u100 u101 u102 u103 u104 u105 u106 u107 u108 u109 u110 u111 u112 u113 u114 u115 u116 u117 u118 u119 u120 u121 u122 u123 u124 u125 u126 u127 u128 u129 u130 u131 u132 u133 u134 u135 u136 u137 u138 u139 u140 u141 u142 u143 u144 u145 u146 u147 u148 u149 u150 u151 u152 u153 u154 u155 u156 u157 u158 u159 u160 u161 u162 u163 u164 u165 u166 u167 u168 u169 u170 u171 u172 u173 u174 u175 u176 u177 u178 u179 u180 u181 u182 u183 u184 u185 u186 u187 u188 u189 u190 u191 u192 u193 u194 u195 u196 u197 u198 u199 u200 u201 u202 u203 u204 u205 u206 u207 u208 u209 u210 u211 u212 u213 u214 u215 u216 u217 u218 u219 u220 u221 u222 u223 u224 u225 u226 u227 u228 u229 u230 u231 u232 u233 u234 u235 u236 u237 u238 u239 u240 u241 u242 u243 u244 u245 u246 u247 u248 u249 u250 u251
    exact hb2_end q g _ _ _ _ _ _ _ _ _ _ _ _ _ _ _ _ _ _ _ _ _ _ _ _ _ _ _ _ _ _ _ _ _ _ _ _ _ _ _ _ _ _ _ _ _ _ _ _ _ _ _ _ _ _ _ _ _ _ _ _ _ _ _ _ _ _ _ _ _ _ _ _ _ _ _ _ _ _ _ _ _ _ _ _ _ _ _ _ _ _ _ _ _ _ _ _ _ _ _ _ _ _ _ _ _ _ _ _ _ _ _ _ _ _ _ _ _ _ _ _ _ _ _ _ _ _ _ _ _ _ _ _ _ _ _ _ _ _ _ _ _ _ _ _ _ _ _ _ _ _ _ _ _ _ _ _ _ _ _ _ _ _ _ _ _ _ _ _ _ _ _ _ _ _ _ _ _ _ _ _ _ _ _ _ _ _ _ _ _ _ _ _ _ _ _ _ _ _ _ _ _ _ _ _ _ _ _ _ _ _ _ _ _ _ _ _ _ _ _ _ _ _ _ _ _ _ _ _ _ _ _ _ _ _ _ _ _ _ _ _ _ _ _ _ _ _ _ _ _  _ Q0 w (fun a1 h1 => hq _ _ h1 hM)
  · have hlt : k < 64 := by omega
    obtain ⟨r0, hr⟩ := hM.any (j := k) hlt
    refine Code.wp_mono (Q := Exit.then (Hb2K q g k (wordHi (wd m (k - 2)) (wd m (k - 7)) (wd m (k - 15)) (wd m (k - 16))) w) Q0) ?_ ?_
    · intro e a' w' he
      cases e with
      | normal =>
        obtain ⟨h1, wx, hx, rfl⟩ := he
        refine ⟨⟨k + 1, by omega, by omega, h1, ?_⟩, ?_⟩
        · rw [← wd_hi m hk16]
          exact hM.step hlt hx
        · rw [Hb2Mu_of h1]
          omega
      | _ => exact he
    · refine hA.elim (C := fun a => Code.wp Tryz.prog (hbBody 1) _ a w) ?_
      intro u1 u2 u3 u4 u6 u8 u9 u10 u11 u12 u13 u14 u15 u16 u17 u18 u19 u20 u21 u22 u23 u24 u25 u26 u27 u28 u29 u30 u31 u32 u33 u34 u35 u36 u37 u38 u39 u40 u41 u42 u43 u44 u45 u46 u47 u48 u49 u50 u51 u52 u53 u54 u55 u56 u57 u58 u59 u60 u61 u62 u63 u64 u65 u66 u67 u68 u69 u70 u71 u72 u73 u74 u75 u76 u77 u78 u79 u80 u81 u82 u83 u84 u85 u86 u87 u88 u89 u90 u91 u92 u93 u94 u95 u96 u97 u98 u99 u100 u101 u102 u103 u104 u105 u106 u107 u108 u109 u110 u111 u112 u113 u114 u115 u116 u117 u118 u119 u120 u121 u122 u123 u124 u125 u126 u127 u128 u129 u130 u131 u132 u133 u134 u135 u136 u137 u138 u139 u140 u141 u142 u143 u144 u145 u146 u147 u148 u149 u150 u151 u152 u153 u154 u155 u156 u157 u158 u159 u160 u161 u162 u163 u164 u165 u166 u167 u168 u169 u170 u171 u172 u173 u174 u175 u176 u177 u178 u179 u180 u181 u182 u183 u184 u185 u186 u187 u188 u189 u190 u191 u192 u193 u194 u195 u196 u197 u198 u199 u200 u201 u202 u203 u204 u205 u206 u207 u208 u209 u210 u211 u212 u213 u214 u215 u216 u217 u218 u219 u220 u221 u222 u223 u224 u225 u226 u227 u228 u229 u230 u231 u232 u233 u234 u235 u236 u237 u238 u239 u240 u241 u242 u243 u244 u245 u246 u247 u248 u249 u250 u251
      exact hb2_round q g k _ _ _ _ _ _ _ _ _ _ _ _ _ _ _ _ _ _ _ _ _ _ _ _ _ _ _ _ _ _ _ _ _ _ _ _ _ _ _ _ _ _ _ _ _ _ _ _ _ _ _ _ _ _ _ _ _ _ _ _ _ _ _ _ _ _ _ _ _ _ _ _ _ _ _ _ _ _ _ _ _ _ _ _ _ _ _ _ _ _ _ _ _ _ _ _ _ _ _ _ _ _ _ _ _ _ _ _ _ _ _ _ _ _ _ _ _ _ _ _ _ _ _ _ _ _ _ _ _ _ _ _ _ _ _ _ _ _ _ _ _ _ _ _ _ _ _ _ _ _ _ _ _ _ _ _ _ _ _ _ _ _ _ _ _ _ _ _ _ _ _ _ _ _ _ _ _ _ _ _ _ _ _ _ _ _ _ _ _ _ _ _ _ _ _ _ _ _ _ _ _ _ _ _ _ _ _ _ _ _ _ _ _ _ _ _ _ _ _ _ _ _ _ _ _ _ _ _ _ _ _ _ _ _ _ _ _ _ _ _ _ _ _ _ _ _ _ _ _  Q0 hp w hk16 hlt _ _ _ _ (hM.word (by omega) hk) (hM.word (by omega) hk) (hM.word (by omega) hk) (hM.word (by omega) hk) r0 hr (hM.free k)
end Go.Proofs.YtgnmgkpfgmpdfaaGreatDoor
end

/- spec.helloBlock: the third loop. -/
import Derived.Test.YtgnmgkpfgmpdfaaGreatDoorSHb0
import Derived.Test.YtgnmgkpfgmpdfaaGreatDoorSHb2
set_option linter.unusedVariables false
set_option linter.unusedSimpArgs false
section
namespace Go.Proofs.YtgnmgkpfgmpdfaaGreatDoor
open Go.RowKit

/-- What a round leaves. -/
def Hb3K (q g kk k : Nat) (s : St8) (w : World) (a : Act) (w1 : World) : Prop := Hb3A q g kk (k + 1) s a ∧ Below w.heap.size w w1
set_option maxHeartbeats 0 in
set_option maxRecDepth 1000000 in
theorem hb3_round (q g kk k : Nat) (s : St8) (u1 u2 u3 u4 u6 u7 u8 u9 u20 u21 u22 u23 u24 u25 u26 u27 u28 u29 u30 u31 u32 u33 u34 u35 u36 u37 u38 u39 u40 u41 u42 u43 u44 u45 u46 u47 u48 u49 u50 u51 u52 u53 u54 u55 u56 u57 u58 u59 u60 u61 u62 u63 u64 u65 u66 u67 u68 u69 u70 u71 u72 u73 u74 u75 u76 u77 u78 u79 u80 u81 u82 u83 u84 u85 u86 u87 u88 u89 u90 u91 u92 u93 u94 u95 u96 u97 u98 u99 u100 u101 u102 u103 u104 u105 u106 u107 u108 u109 u110 u111 u112 u113 u114 u115 u116 u117 u118 u119 u120 u121 u122 u123 u124 u125 u126 u127 u128 u129 u130 u131 u132 u133 u134 u135 u136 u137 u138 u139 u140 u141 u142 u143 u144 u145 u146 u147 u148 u149 u150 u151 u152 u153 u154 u155 u156 u157 u158 u159 u160 u161 u162 u163 u164 u165 u166 u167 u168 u169 u170 u171 u172 u173 u174 u175 u176 u177 u178 u179 u180 u181 u182 u183 u184 u185 u186 u187 u188 u189 u190 u191 u192 u193 u194 u195 u196 u197 u198 u199 u200 u201 u202 u203 u204 u205 u206 u207 u208 u209 u210 u211 u212 u213 u214 u215 u216 u217 u218 u219 u220 u221 u222 u223 u224 u225 u226 u227 u228 u229 u230 u231 u232 u233 u234 u235 u236 u237 u238 u239 u240 u241 u242 u243 u244 u245 u246 u247 u248 u249 u250 u251 : Value) (Q0 : Exit → Act → World → Prop) (hp : ∀ c a w (d : Tmp) v, Q0 (.panic c) (a.put (some d) v) w → Q0 (.panic c) a w) (w : World) (hk64 : k < 64) (kc v : Int) (ck : w.cell? ⟨kk, k, none⟩ = some (.int .u32 kc)) (cv : w.cell? ⟨g, k, none⟩ = some (.int .u32 v)) :
    Code.wp Tryz.prog (hbBody 2) (Exit.then (Hb3K q g kk k (rnd kc v s) w) Q0) ⟨#[.slice (some ⟨q, 0, none⟩) 8 8, u1, u2, u3, u4, .slice (some ⟨g, 0, none⟩) 64 64, u6, u7, u8, u9, .slice (some ⟨kk, 0, none⟩) 64 64, .int .u32 s.a, .int .u32 s.b, .int .u32 s.c, .int .u32 s.d, .int .u32 s.e, .int .u32 s.f, .int .u32 s.g, .int .u32 s.h, .int .i64 (k : Int), u20, u21, u22, u23, u24, u25, u26, u27, u28, u29, u30, u31, u32, u33, u34, u35, u36, u37, u38, u39, u40, u41, u42, u43, u44, u45, u46, u47, u48, u49, u50, u51, u52, u53, u54, u55, u56, u57, u58, u59, u60, u61, u62, u63, u64, u65, u66, u67, u68, u69, u70, u71, u72, u73, u74, u75, u76, u77, u78, u79, u80, u81, u82, u83, u84, u85, u86, u87, u88, u89, u90, u91, u92, u93, u94, u95, u96, u97, u98, u99, u100, u101, u102, u103, u104, u105, u106, u107, u108, u109, u110, u111, u112, u113, u114, u115, u116, u117, u118, u119, u120, u121, u122, u123, u124, u125, u126, u127, u128, u129, u130, u131, u132, u133, u134, u135, u136, u137, u138, u139, u140, u141, u142, u143, u144, u145, u146, u147, u148, u149, u150, u151, u152, u153, u154, u155, u156, u157, u158, u159, u160, u161, u162, u163, u164, u165, u166, u167, u168, u169, u170, u171, u172, u173, u174, u175, u176, u177, u178, u179, u180, u181, u182, u183, u184, u185, u186, u187, u188, u189, u190, u191, u192, u193, u194, u195, u196, u197, u198, u199, u200, u201, u202, u203, u204, u205, u206, u207, u208, u209, u210, u211, u212, u213, u214, u215, u216, u217, u218, u219, u220, u221, u222, u223, u224, u225, u226, u227, u228, u229, u230, u231, u232, u233, u234, u235, u236, u237, u238, u239, u240, u241, u242, u243, u244, u245, u246, u247, u248, u249, u250, u251], []⟩ w := by
  conv => arg 2; whnf
  have gk : (k : Int) < 64 := by omega
  go_upto_region 18 with fail
  refine wp_region_held (S := fun w2 => Below w.heap.size w w2) (by kernel_rfl) ?_
  change wpAnyH _ _ _ _ _ 30 _ _ w.drew
  have hS0 : Below w.heap.size w w.drew := (Below.refl _ _).drew
  refine wpAnyH_takeG (i := 0) (d := 150) (g := none) (op := (Op.move (Operand.tmp 18))) (v := .int .u32 s.h) (by kernel_rfl) (by kernel_rfl) (by kernel_rfl) (by kernel_rfl) (fun _ _ _ h => hp _ _ _ _ _ h) rfl (fun _ _ _ _ _ => by kernel_rfl) hS0 ?_
  refine wpAnyH_takeG (i := 1) (d := 151) (g := none) (op := (Op.move (Operand.tmp 15))) (v := .int .u32 s.e) (by kernel_rfl) (by kernel_rfl) (by kernel_rfl) (by kernel_rfl) (fun _ _ _ h => hp _ _ _ _ _ h) rfl (fun _ _ _ _ _ => by kernel_rfl) hS0 ?_
  refine wpAnyH_takeG (i := 3) (d := 153) (g := none) (op := (Op.move (Operand.tmp 15))) (v := .int .u32 s.e) (by kernel_rfl) (by kernel_rfl) (by kernel_rfl) (by kernel_rfl) (fun _ _ _ h => hp _ _ _ _ _ h) rfl (fun _ _ _ _ _ => by kernel_rfl) hS0 ?_
  refine wpAnyH_takeG (i := 6) (d := 156) (g := none) (op := (Op.move (Operand.tmp 15))) (v := .int .u32 s.e) (by kernel_rfl) (by kernel_rfl) (by kernel_rfl) (by kernel_rfl) (fun _ _ _ h => hp _ _ _ _ _ h) rfl (fun _ _ _ _ _ => by kernel_rfl) hS0 ?_
  refine wpAnyH_takeG (i := 10) (d := 160) (g := none) (op := (Op.move (Operand.tmp 15))) (v := .int .u32 s.e) (by kernel_rfl) (by kernel_rfl) (by kernel_rfl) (by kernel_rfl) (fun _ _ _ h => hp _ _ _ _ _ h) rfl (fun _ _ _ _ _ => by kernel_rfl) hS0 ?_
  refine wpAnyH_takeG (i := 13) (d := 163) (g := none) (op := (Op.move (Operand.tmp 15))) (v := .int .u32 s.e) (by kernel_rfl) (by kernel_rfl) (by kernel_rfl) (by kernel_rfl) (fun _ _ _ h => hp _ _ _ _ _ h) rfl (fun _ _ _ _ _ => by kernel_rfl) hS0 ?_
  refine wpAnyH_takeG (i := 11) (d := 161) (g := none) (op := (Op.move (Operand.tmp 16))) (v := .int .u32 s.f) (by kernel_rfl) (by kernel_rfl) (by kernel_rfl) (by kernel_rfl) (fun _ _ _ h => hp _ _ _ _ _ h) rfl (fun _ _ _ _ _ => by kernel_rfl) hS0 ?_
  refine wpAnyH_takeG (i := 15) (d := 165) (g := none) (op := (Op.move (Operand.tmp 17))) (v := .int .u32 s.g) (by kernel_rfl) (by kernel_rfl) (by kernel_rfl) (by kernel_rfl) (fun _ _ _ h => hp _ _ _ _ _ h) rfl (fun _ _ _ _ _ => by kernel_rfl) hS0 ?_
  refine wpAnyH_takeG (i := 12) (d := 162) (g := none) (op := (Op.binOp BinOp.and 22 (Operand.tmp 160) (Operand.tmp 161) 22)) (v := .int .u32 (bits .and .u32 s.e s.f)) (by kernel_rfl) (by kernel_rfl) (by kernel_rfl) (by kernel_rfl) (fun _ _ _ h => hp _ _ _ _ _ h) rfl (fun _ _ _ _ _ => by kernel_rfl) hS0 ?_
  refine wpAnyH_takeG (i := 14) (d := 164) (g := none) (op := (Op.unOp UnOp.xor 22 (Operand.tmp 163))) (v := .int .u32 (bits .xor .u32 (if IntKind.u32.signed = true then -1 else IntKind.u32.max) s.e)) (by kernel_rfl) (by kernel_rfl) (by kernel_rfl) (by kernel_rfl) (fun _ _ _ h => hp _ _ _ _ _ h) rfl (fun _ _ _ _ _ => by kernel_rfl) hS0 ?_
  refine wpAnyH_takeG (i := 16) (d := 166) (g := none) (op := (Op.binOp BinOp.and 22 (Operand.tmp 164) (Operand.tmp 165) 22)) (v := .int .u32 (bits .and .u32 (bits .xor .u32 (if IntKind.u32.signed = true then -1 else IntKind.u32.max) s.e) s.g)) (by kernel_rfl) (by kernel_rfl) (by kernel_rfl) (by kernel_rfl) (fun _ _ _ h => hp _ _ _ _ _ h) rfl (fun _ _ _ _ _ => by kernel_rfl) hS0 ?_
  refine wpAnyH_takeG (i := 17) (d := 167) (g := none) (op := (Op.binOp BinOp.xor 22 (Operand.tmp 162) (Operand.tmp 166) 22)) (v := .int .u32 (bits .xor .u32 (bits .and .u32 s.e s.f) (bits .and .u32 (bits .xor .u32 (if IntKind.u32.signed = true then -1 else IntKind.u32.max) s.e) s.g))) (by kernel_rfl) (by kernel_rfl) (by kernel_rfl) (by kernel_rfl) (fun _ _ _ h => hp _ _ _ _ _ h) rfl (fun _ _ _ _ _ => by kernel_rfl) hS0 ?_
  refine wpAnyH_takeG (i := 19) (d := 169) (g := none) (op := (Op.move (Operand.tmp 10))) (v := .slice (some ⟨kk, 0, none⟩) 64 64) (by kernel_rfl) (by kernel_rfl) (by kernel_rfl) (by kernel_rfl) (fun _ _ _ h => hp _ _ _ _ _ h) rfl (fun _ _ _ _ _ => by kernel_rfl) hS0 ?_
  refine wpAnyH_takeG (i := 20) (d := 170) (g := none) (op := (Op.move (Operand.tmp 19))) (v := .int .i64 (k : Int)) (by kernel_rfl) (by kernel_rfl) (by kernel_rfl) (by kernel_rfl) (fun _ _ _ h => hp _ _ _ _ _ h) rfl (fun _ _ _ _ _ => by kernel_rfl) hS0 ?_
  refine wpAnyH_takeG (i := 21) (d := 171) (g := none) (op := (Op.indexAddr 106 (Operand.tmp 169) (Operand.tmp 170))) (v := .pointer (some ⟨kk, k, none⟩)) (by kernel_rfl) (by kernel_rfl) (by kernel_rfl) (by kernel_rfl) (fun _ _ _ h => hp _ _ _ _ _ h) rfl (fun ty pos af w2 _ => idxh_run ty pos af (by kernel_rfl) (by kernel_rfl) w2 (idx106 64 hk64 w2)) hS0 ?_
  refine wpAnyH_ldG (i := 22) (d := 172) (g := none) (t := 22) (x := (Operand.tmp 171)) (p := ⟨kk, k, none⟩) (u := .int .u32 kc) (by kernel_rfl) (by kernel_rfl) (by kernel_rfl) (by kernel_rfl) (fun _ _ _ h => hp _ _ _ _ _ h) rfl (by kernel_rfl) (fun w2 h1 => ld22h w2 _ _ (bcellv h1 ck)) hS0 ?_
  refine wpAnyH_takeG (i := 24) (d := 174) (g := none) (op := (Op.move (Operand.tmp 5))) (v := .slice (some ⟨g, 0, none⟩) 64 64) (by kernel_rfl) (by kernel_rfl) (by kernel_rfl) (by kernel_rfl) (fun _ _ _ h => hp _ _ _ _ _ h) rfl (fun _ _ _ _ _ => by kernel_rfl) hS0 ?_
  refine wpAnyH_takeG (i := 25) (d := 175) (g := none) (op := (Op.move (Operand.tmp 19))) (v := .int .i64 (k : Int)) (by kernel_rfl) (by kernel_rfl) (by kernel_rfl) (by kernel_rfl) (fun _ _ _ h => hp _ _ _ _ _ h) rfl (fun _ _ _ _ _ => by kernel_rfl) hS0 ?_
  refine wpAnyH_takeG (i := 26) (d := 176) (g := none) (op := (Op.indexAddr 106 (Operand.tmp 174) (Operand.tmp 175))) (v := .pointer (some ⟨g, k, none⟩)) (by kernel_rfl) (by kernel_rfl) (by kernel_rfl) (by kernel_rfl) (fun _ _ _ h => hp _ _ _ _ _ h) rfl (fun ty pos af w2 _ => idxh_run ty pos af (by kernel_rfl) (by kernel_rfl) w2 (idx106 64 hk64 w2)) hS0 ?_
  refine wpAnyH_ldG (i := 27) (d := 177) (g := none) (t := 22) (x := (Operand.tmp 176)) (p := ⟨g, k, none⟩) (u := .int .u32 v) (by kernel_rfl) (by kernel_rfl) (by kernel_rfl) (by kernel_rfl) (fun _ _ _ h => hp _ _ _ _ _ h) rfl (by kernel_rfl) (fun w2 h1 => ld22h w2 _ _ (bcellv h1 cv)) hS0 ?_
  refine wpAnyH_call (i := 2) (f := 83) (xs := #[(Operand.tmp 151), (Operand.const (Value.int IntKind.i64 6))]) (ats := #[22, 3]) (d := 152) (vs := #[.int .u32 s.e, .int .i64 6]) (by kernel_rfl) (by kernel_rfl) (by kernel_rfl) (by kernel_rfl) ((turn6 s.e w.drew).mono ?_)
  rintro e x1 ⟨rfl, hb1⟩
  have hS1 : Below w.heap.size w x1 := hS0.trans (hb1.mono hS0.size)
  clear hb1
  refine ⟨_, rfl, hS1, ?_⟩
  refine wpAnyH_call (i := 4) (f := 83) (xs := #[(Operand.tmp 153), (Operand.const (Value.int IntKind.i64 11))]) (ats := #[22, 3]) (d := 154) (vs := #[.int .u32 s.e, .int .i64 11]) (by kernel_rfl) (by kernel_rfl) (by kernel_rfl) (by kernel_rfl) ((turn11 s.e x1).mono ?_)
  rintro e x2 ⟨rfl, hb2⟩
  have hS2 : Below w.heap.size w x2 := hS1.trans (hb2.mono hS1.size)
  clear hb2
  refine ⟨_, rfl, hS2, ?_⟩
  refine wpAnyH_takeG (i := 5) (d := 155) (g := none) (op := (Op.binOp BinOp.xor 22 (Operand.tmp 152) (Operand.tmp 154) 22)) (v := .int .u32 (bits .xor .u32 (ror 67108864 64 s.e) (ror 2097152 2048 s.e))) (by kernel_rfl) (by kernel_rfl) (by kernel_rfl) (by kernel_rfl) (fun _ _ _ h => hp _ _ _ _ _ h) rfl (fun _ _ _ _ _ => by kernel_rfl) hS2 ?_
  refine wpAnyH_call (i := 7) (f := 83) (xs := #[(Operand.tmp 156), (Operand.const (Value.int IntKind.i64 25))]) (ats := #[22, 3]) (d := 157) (vs := #[.int .u32 s.e, .int .i64 25]) (by kernel_rfl) (by kernel_rfl) (by kernel_rfl) (by kernel_rfl) ((turn25 s.e x2).mono ?_)
  rintro e x3 ⟨rfl, hb3⟩
  have hS3 : Below w.heap.size w x3 := hS2.trans (hb3.mono hS2.size)
  clear hb3
  refine ⟨_, rfl, hS3, ?_⟩
  refine wpAnyH_takeG (i := 8) (d := 158) (g := none) (op := (Op.binOp BinOp.xor 22 (Operand.tmp 155) (Operand.tmp 157) 22)) (v := .int .u32 (bits .xor .u32 (bits .xor .u32 (ror 67108864 64 s.e) (ror 2097152 2048 s.e)) (ror 128 33554432 s.e))) (by kernel_rfl) (by kernel_rfl) (by kernel_rfl) (by kernel_rfl) (fun _ _ _ h => hp _ _ _ _ _ h) rfl (fun _ _ _ _ _ => by kernel_rfl) hS3 ?_
  refine wpAnyH_takeG (i := 9) (d := 159) (g := none) (op := (Op.binOp BinOp.add 22 (Operand.tmp 150) (Operand.tmp 158) 22)) (v := .int .u32 (IntKind.u32.wrap (s.h + (bits .xor .u32 (bits .xor .u32 (ror 67108864 64 s.e) (ror 2097152 2048 s.e)) (ror 128 33554432 s.e))))) (by kernel_rfl) (by kernel_rfl) (by kernel_rfl) (by kernel_rfl) (fun _ _ _ h => hp _ _ _ _ _ h) rfl (fun _ _ _ _ _ => by kernel_rfl) hS3 ?_
  refine wpAnyH_takeG (i := 18) (d := 168) (g := none) (op := (Op.binOp BinOp.add 22 (Operand.tmp 159) (Operand.tmp 167) 22)) (v := .int .u32 (IntKind.u32.wrap ((IntKind.u32.wrap (s.h + (bits .xor .u32 (bits .xor .u32 (ror 67108864 64 s.e) (ror 2097152 2048 s.e)) (ror 128 33554432 s.e)))) + (bits .xor .u32 (bits .and .u32 s.e s.f) (bits .and .u32 (bits .xor .u32 (if IntKind.u32.signed = true then -1 else IntKind.u32.max) s.e) s.g))))) (by kernel_rfl) (by kernel_rfl) (by kernel_rfl) (by kernel_rfl) (fun _ _ _ h => hp _ _ _ _ _ h) rfl (fun _ _ _ _ _ => by kernel_rfl) hS3 ?_
  refine wpAnyH_takeG (i := 23) (d := 173) (g := none) (op := (Op.binOp BinOp.add 22 (Operand.tmp 168) (Operand.tmp 172) 22)) (v := .int .u32 (IntKind.u32.wrap ((IntKind.u32.wrap ((IntKind.u32.wrap (s.h + (bits .xor .u32 (bits .xor .u32 (ror 67108864 64 s.e) (ror 2097152 2048 s.e)) (ror 128 33554432 s.e)))) + (bits .xor .u32 (bits .and .u32 s.e s.f) (bits .and .u32 (bits .xor .u32 (if IntKind.u32.signed = true then -1 else IntKind.u32.max) s.e) s.g)))) + kc))) (by kernel_rfl) (by kernel_rfl) (by kernel_rfl) (by kernel_rfl) (fun _ _ _ h => hp _ _ _ _ _ h) rfl (fun _ _ _ _ _ => by kernel_rfl) hS3 ?_
  refine wpAnyH_takeG (i := 28) (d := 178) (g := none) (op := (Op.binOp BinOp.add 22 (Operand.tmp 173) (Operand.tmp 177) 22)) (v := .int .u32 (T1 s.e s.f s.g s.h kc v)) (by kernel_rfl) (by kernel_rfl) (by kernel_rfl) (by kernel_rfl) (fun _ _ _ h => hp _ _ _ _ _ h) rfl (fun _ _ _ _ _ => by kernel_rfl) hS3 ?_
  refine wpAnyH_takeG (i := 29) (d := 20) (g := none) (op := (Op.assign (Operand.tmp 178))) (v := .int .u32 (T1 s.e s.f s.g s.h kc v)) (by kernel_rfl) (by kernel_rfl) (by kernel_rfl) (by kernel_rfl) (fun _ _ _ h => hp _ _ _ _ _ h) rfl (fun _ _ _ _ _ => by kernel_rfl) hS3 ?_
  refine wpAnyH_done (by kernel_rfl) ?_ 0
  simp only [Act.put, List.setIfInBounds_toArray, List.set_cons_zero, List.set_cons_succ]
  have HB := Lib.hid hS3
  clear hS0 hS1 hS2 hS3 ck cv
  generalize hT : T1 s.e s.f s.g s.h kc v = t1
  have HT := Lib.hid hT
  clear hT
  go_wp2_with fail
  refine (turn2 _ _).mono ?_
  rintro e x4 ⟨rfl, hb4⟩
  have HB4 := Lib.hid (HB.out.trans (hb4.mono HB.out.size))
  clear hb4 HB
  dsimp only
  go_wp2_with fail
  refine (turn13 _ _).mono ?_
  rintro e x5 ⟨rfl, hb5⟩
  have HB5 := Lib.hid (HB4.out.trans (hb5.mono HB4.out.size))
  clear hb5 HB4
  dsimp only
  go_wp2_with fail
  refine (turn22 _ _).mono ?_
  rintro e x6 ⟨rfl, hb6⟩
  have HB6 := Lib.hid (HB5.out.trans (hb6.mono HB5.out.size))
  clear hb6 HB5
  dsimp only
  go_wp2_with fail
  have ht := HT.out
  clear HT
  subst ht
  exact ⟨⟨rfl, rfl, rfl, rfl, rfl, rfl, rfl, rfl, rfl, rfl, rfl, rfl, rfl, rfl⟩, HB6.out⟩
set_option maxHeartbeats 0 in
set_option maxRecDepth 1000000 in
theorem hb3_end (q g kk : Nat) (s : St8) (u1 u2 u3 u4 u6 u7 u8 u9 u20 u21 u22 u23 u24 u25 u26 u27 u28 u29 u30 u31 u32 u33 u34 u35 u36 u37 u38 u39 u40 u41 u42 u43 u44 u45 u46 u47 u48 u49 u50 u51 u52 u53 u54 u55 u56 u57 u58 u59 u60 u61 u62 u63 u64 u65 u66 u67 u68 u69 u70 u71 u72 u73 u74 u75 u76 u77 u78 u79 u80 u81 u82 u83 u84 u85 u86 u87 u88 u89 u90 u91 u92 u93 u94 u95 u96 u97 u98 u99 u100 u101 u102 u103 u104 u105 u106 u107 u108 u109 u110 u111 u112 u113 u114 u115 u116 u117 u118 u119 u120 u121 u122 u123 u124 u125 u126 u127 u128 u129 u130 u131 u132 u133 u134 u135 u136 u137 u138 u139 u140 u141 u142 u143 u144 u145 u146 u147 u148 u149 u150 u151 u152 u153 u154 u155 u156 u157 u158 u159 u160 u161 u162 u163 u164 u165 u166 u167 u168 u169 u170 u171 u172 u173 u174 u175 u176 u177 u178 u179 u180 u181 u182 u183 u184 u185 u186 u187 u188 u189 u190 u191 u192 u193 u194 u195 u196 u197 u198 u199 u200 u201 u202 u203 u204 u205 u206 u207 u208 u209 u210 u211 u212 u213 u214 u215 u216 u217 u218 u219 u220 u221 u222 u223 u224 u225 u226 u227 u228 u229 u230 u231 u232 u233 u234 u235 u236 u237 u238 u239 u240 u241 u242 u243 u244 u245 u246 u247 u248 u249 u250 u251 : Value) (K : Act → World → Prop) (Q0 : Exit → Act → World → Prop) (w : World) (hq : ∀ a1, Hb3A q g kk 64 s a1 → Q0 (.exit 4) a1 w) :
    Code.wp Tryz.prog (hbBody 2) (Exit.then K Q0) ⟨#[.slice (some ⟨q, 0, none⟩) 8 8, u1, u2, u3, u4, .slice (some ⟨g, 0, none⟩) 64 64, u6, u7, u8, u9, .slice (some ⟨kk, 0, none⟩) 64 64, .int .u32 s.a, .int .u32 s.b, .int .u32 s.c, .int .u32 s.d, .int .u32 s.e, .int .u32 s.f, .int .u32 s.g, .int .u32 s.h, .int .i64 (64 : Int), u20, u21, u22, u23, u24, u25, u26, u27, u28, u29, u30, u31, u32, u33, u34, u35, u36, u37, u38, u39, u40, u41, u42, u43, u44, u45, u46, u47, u48, u49, u50, u51, u52, u53, u54, u55, u56, u57, u58, u59, u60, u61, u62, u63, u64, u65, u66, u67, u68, u69, u70, u71, u72, u73, u74, u75, u76, u77, u78, u79, u80, u81, u82, u83, u84, u85, u86, u87, u88, u89, u90, u91, u92, u93, u94, u95, u96, u97, u98, u99, u100, u101, u102, u103, u104, u105, u106, u107, u108, u109, u110, u111, u112, u113, u114, u115, u116, u117, u118, u119, u120, u121, u122, u123, u124, u125, u126, u127, u128, u129, u130, u131, u132, u133, u134, u135, u136, u137, u138, u139, u140, u141, u142, u143, u144, u145, u146, u147, u148, u149, u150, u151, u152, u153, u154, u155, u156, u157, u158, u159, u160, u161, u162, u163, u164, u165, u166, u167, u168, u169, u170, u171, u172, u173, u174, u175, u176, u177, u178, u179, u180, u181, u182, u183, u184, u185, u186, u187, u188, u189, u190, u191, u192, u193, u194, u195, u196, u197, u198, u199, u200, u201, u202, u203, u204, u205, u206, u207, u208, u209, u210, u211, u212, u213, u214, u215, u216, u217, u218, u219, u220, u221, u222, u223, u224, u225, u226, u227, u228, u229, u230, u231, u232, u233, u234, u235, u236, u237, u238, u239, u240, u241, u242, u243, u244, u245, u246, u247, u248, u249, u250, u251], []⟩ w := by
  have HQ := Lib.hid hq
  clear hq
  conv => arg 2; whnf
  go_wp2_with fail
  exact HQ.out _ ⟨rfl, rfl, rfl, rfl, rfl, rfl, rfl, rfl, rfl, rfl, rfl, rfl, rfl, rfl⟩
def Hb3R (q g kk : Nat) (m : Nat → Int) (s : St8) (w0 : World) (a : Act) (w : World) : Prop := ∃ k, k ≤ 64 ∧ Hb3A q g kk k (rounds m s k) a ∧ Below w0.heap.size w0 w
def Hb3Mu (a : Act) (_ : World) : Nat := 64 - (intOf (a.tmps.getD 19 undef)).toNat
theorem Hb3Mu_of {q g kk k : Nat} {s : St8} {a : Act} {w : World} (hA : Hb3A q g kk k s a) : Hb3Mu a w = 64 - k := by
  unfold Hb3Mu
  rw [hA.e19]
  simp [intOf]
set_option maxHeartbeats 0 in
set_option maxRecDepth 1000000 in
theorem hb3_loop (q g kk : Nat) (m : Nat → Int) (s : St8) (w0 : World) (hck : ∀ j, j < 64 → w0.cell? ⟨kk, j, none⟩ = some (.int .u32 (Kc.getD j 0))) (hcv : ∀ j, j < 64 → w0.cell? ⟨g, j, none⟩ = some (.int .u32 (wd m j)))
    (Q0 : Exit → Act → World → Prop) (hp : ∀ c a w (d : Tmp) v, Q0 (.panic c) (a.put (some d) v) w → Q0 (.panic c) a w) (hq : ∀ a w, Hb3A q g kk 64 (rounds m s 64) a → Below w0.heap.size w0 w → Q0 (.exit 4) a w) (a : Act) (hA : Hb3A q g kk 0 s a) :
    Code.wp Tryz.prog (Code.loop (hbBody 2)) Q0 a w0 := by
  refine wp_loop (Hb3R q g kk m s w0) Hb3Mu ⟨0, by omega, hA, Below.refl _ _⟩ ?_
  clear hA a
  intro a w hI
  obtain ⟨k, hk, hA, hM⟩ := hI
  rw [Hb3Mu_of hA]
  by_cases h64 : k = 64
  · subst h64
    refine hA.elim (C := fun a => Code.wp Tryz.prog (hbBody 2) _ a w) ?_
    intro u1 u2 u3 u4 u6 u7 u8 u9 u20 u21 u22 u23 u24 u25 u26 u27 u28 u29 u30 u31 u32 u33 u34 u35 u36 u37 u38 u39 u40 u41 u42 u43 u44 u45 u46 u47 u48 u49 u50 u51 u52 u53 u54 u55 u56 u57 u58 u59 u60 u61 u62 u63 u64 u65 u66 u67 u68 u69 u70 u71 u72 u73 u74 u75 u76 u77 u78 u79 u80 u81 u82 u83 u84 u85 u86 u87 u88 u89 u90 u91 u92 u93 u94 u95 u96 u97 u98 u99 u100 u101 u102 u103 u104 u105 u106 u107 u108 u109 u110 u111 u112 u113 u114 u115 u116 u117 u118 u119 u120 u121 u122 u123 u124 u125 u126 u127 u128 u129 u130 u131 u132 u133 u134 u135 u136 u137 u138 u139 u140 u141 u142 u143 u144 u145 u146 u147 u148 u149 u150 u151 u152 u153 u154 u155 u156 u157 u158 u159 u160 u161 u162 u163 u164 u165 u166 u167 u168 u169 u170 u171 u172 u173 u174 u175 u176 u177 u178 u179 u180 u181 u182 u183 u184 u185 u186 u187 u188 u189 u190 u191 u192 u193 u194 u195 u196 u197 u198 u199 u200 u201 u202 u203 u204 u205 u206 u207 u208 u209 u210 u211 u212 u213 u214 u215 u216 u217 u218 u219 u220 u221 u222 u223 u224 u225 u226 u227 u228 u229 u230 u231 u232 u233 u234 u235 u236 u237 u238 u239 u240 u241 u242 u243 u244 u245 u246 u247 u248 u249 u250 u251
    exact hb3_end q g kk (rounds m s 64) _ _ _ _ _ _ _ _ _ _ _ _ _ _ _ _ _ _ _ _ _ _ _ _ _ _ _ _ _ _ _ _ _ _ _ _ _ _ _ _ _ _ _ _ _ _ _ _ _ _ _ _ _ _ _ _ _ _ _ _ _ _ _ _ _ _ _ _ _ _ _ _ _ _ _ _ _ _ _ _ _ _ _ _ _ _ _ _ _ _ _ _ _ _ _ _ _ _ _ _ _ _ _ _ _ _ _ _ _ _ _ _ _ _ _ _ _ _ _ _ _ _ _ _ _ _ _ _ _ _ _ _ _ _ _ _ _ _ _ _ _ _ _ _ _ _ _ _ _ _ _ _ _ _ _ _ _ _ _ _ _ _ _ _ _ _ _ _ _ _ _ _ _ _ _ _ _ _ _ _ _ _ _ _ _ _ _ _ _ _ _ _ _ _ _ _ _ _ _ _ _ _ _ _ _ _ _ _ _ _ _ _ _ _ _ _ _ _ _ _ _ _ _ _ _ _ _ _ _ _ _ _ _ _ _ _ _ _ _ _  _ Q0 w (fun a1 h1 => hq _ _ h1 hM)
  · have hlt : k < 64 := by omega
    refine Code.wp_mono (Q := Exit.then (Hb3K q g kk k (rounds m s (k + 1)) w) Q0) ?_ ?_
    · intro e a' w' he
      cases e with
      | normal =>
        obtain ⟨h1, hx⟩ := he
        refine ⟨⟨k + 1, by omega, h1, hM.trans (hx.mono hM.size)⟩, ?_⟩
        rw [Hb3Mu_of h1]
        omega
      | _ => exact he
    · refine hA.elim (C := fun a => Code.wp Tryz.prog (hbBody 2) _ a w) ?_
      intro u1 u2 u3 u4 u6 u7 u8 u9 u20 u21 u22 u23 u24 u25 u26 u27 u28 u29 u30 u31 u32 u33 u34 u35 u36 u37 u38 u39 u40 u41 u42 u43 u44 u45 u46 u47 u48 u49 u50 u51 u52 u53 u54 u55 u56 u57 u58 u59 u60 u61 u62 u63 u64 u65 u66 u67 u68 u69 u70 u71 u72 u73 u74 u75 u76 u77 u78 u79 u80 u81 u82 u83 u84 u85 u86 u87 u88 u89 u90 u91 u92 u93 u94 u95 u96 u97 u98 u99 u100 u101 u102 u103 u104 u105 u106 u107 u108 u109 u110 u111 u112 u113 u114 u115 u116 u117 u118 u119 u120 u121 u122 u123 u124 u125 u126 u127 u128 u129 u130 u131 u132 u133 u134 u135 u136 u137 u138 u139 u140 u141 u142 u143 u144 u145 u146 u147 u148 u149 u150 u151 u152 u153 u154 u155 u156 u157 u158 u159 u160 u161 u162 u163 u164 u165 u166 u167 u168 u169 u170 u171 u172 u173 u174 u175 u176 u177 u178 u179 u180 u181 u182 u183 u184 u185 u186 u187 u188 u189 u190 u191 u192 u193 u194 u195 u196 u197 u198 u199 u200 u201 u202 u203 u204 u205 u206 u207 u208 u209 u210 u211 u212 u213 u214 u215 u216 u217 u218 u219 u220 u221 u222 u223 u224 u225 u226 u227 u228 u229 u230 u231 u232 u233 u234 u235 u236 u237 u238 u239 u240 u241 u242 u243 u244 u245 u246 u247 u248 u249 u250 u251
      exact hb3_round q g kk k (rounds m s k) _ _ _ _ _ _ _ _ _ _ _ _ _ _ _ _ _ _ _ _ _ _ _ _ _ _ _ _ _ _ _ _ _ _ _ _ _ _ _ _ _ _ _ _ _ _ _ _ _ _ _ _ _ _ _ _ _ _ _ _ _ _ _ _ _ _ _ _ _ _ _ _ _ _ _ _ _ _ _ _ _ _ _ _ _ _ _ _ _ _ _ _ _ _ _ _ _ _ _ _ _ _ _ _ _ _ _ _ _ _ _ _ _ _ _ _ _ _ _ _ _ _ _ _ _ _ _ _ _ _ _ _ _ _ _ _ _ _ _ _ _ _ _ _ _ _ _ _ _ _ _ _ _ _ _ _ _ _ _ _ _ _ _ _ _ _ _ _ _ _ _ _ _ _ _ _ _ _ _ _ _ _ _ _ _ _ _ _ _ _ _ _ _ _ _ _ _ _ _ _ _ _ _ _ _ _ _ _ _ _ _ _ _ _ _ _ _ _ _ _ _ _ _ _ _ _ _ _ _ _ _ _ _ _ _ _ _ _ _ _  Q0 hp w hlt _ _ (bcellv hM (hck k hlt)) (bcellv hM (hcv k hlt))
end Go.Proofs.YtgnmgkpfgmpdfaaGreatDoor
end

/- spec.helloBlock: the state behind a block. -/
section
namespace Go.Proofs.YtgnmgkpfgmpdfaaGreatDoor
open Go.RowKit

/-- A state's cells. -/
def stC (s : St8) : Array Value := #[.int .u32 s.a, .int .u32 s.b, .int .u32 s.c, .int .u32 s.d, .int .u32 s.e, .int .u32 s.f, .int .u32 s.g, .int .u32 s.h]
theorem info22 : (Tryz.prog.info? 22).map (fun i => (i.zero, i.size, i.bytes)) = some (some (.int .u32 0), 1, 4) := by kernel_rfl
theorem underlying106 : Tryz.prog.underlying 106 = some (.slice 22) := by kernel_rfl
theorem hw_made (m : Nat → Int) : madeCells (Value.int .u32 0).cells 64 = (hwC m 0).toArray := by
  refine Array.ext (by simp [madeCells, hwC]) fun j h1 h2 => ?_
  simp [madeCells, Value.cells, Nat.mod_one, hwC]
theorem kc_cell (w : World) {j : Nat} (hj : j < 64) : (w.alloc (.cells (Kc.map fun z => Value.int .u32 z).toArray 22)).cell? ⟨w.heap.size, j, none⟩ = some (.int .u32 (Kc.getD j 0)) := by
  have hl : Kc.length = 64 := by kernel_rfl
  rw [bcell (heap_alloc_new w _), List.getElem?_toArray, List.getElem?_map, List.getElem?_eq_getElem (by omega)]
  simp [List.getD_eq_getElem?_getD, List.getElem?_eq_getElem (show j < Kc.length by omega)]
def HbQ (h : St8) (s : ByteArray) (w : World) (e : Ending) (w' : World) : Prop := ∃ q', e = .returned (.slice (some ⟨q', 0, none⟩) 8 8) ∧ w.heap.size ≤ q' ∧ w'.heap[q']? = some (.cells (stC (blk1 (sby s) 0 h)) 22 (0, 0)) ∧ Below w.heap.size w w'
set_option maxHeartbeats 0 in
set_option maxRecDepth 1000000 in
theorem helloblock_any (q : Nat) (h : St8) (s : ByteArray) (w : World) (hs : s.size = 64) (hq : w.heap[q]? = some (.cells (stC h) 22 (0, 0))) :
    Calls Tryz.prog 60 #[.slice (some ⟨q, 0, none⟩) 8 8, .string s] w (HbQ h s w) := by
  obtain ⟨i22, hi22, hz0, hz1, hz2⟩ := info_parts info22
  have hmk := run_make (P := Tryz.prog) w 106 22 i22 (.int .u32 0) underlying106 hi22 hz0 .i64 .i64 64 64 (by omega) (Int.le_refl _) (by rw [hz2]; omega) (by omega)
  rw [hz1, Nat.mul_one, show (64 : Int).toNat = 64 from rfl, hw_made (blkWord (sby s) 0)] at hmk
  clear hi22 hz0 hz1 hz2
  have HQ0 := Lib.hid hq
  clear hq
  go_enter Tryz.func60, Tryz.ntmps60
  go_wp2_with fail
  have hB1 : Below w.heap.size w (w.alloc (Obj.cells (hwC (blkWord (sby s) 0) 0).toArray 22)) := (Below.refl _ _).alloc (Nat.le_refl _) _
  have hE1 := heap_alloc_new w (Obj.cells (hwC (blkWord (sby s) 0) 0).toArray 22)
  generalize w.alloc (Obj.cells (hwC (blkWord (sby s) 0) 0).toArray 22) = w1 at hB1 hE1 ⊢
  clear hmk
  have HM0 := Lib.hid (show HwM w w.heap.size (blkWord (sby s) 0) 0 w1 from ⟨hE1, hB1⟩)
  clear hB1 hE1
  rename_i K hK
  refine hb1_loop q s w.heap.size w hs _ (fun _ _ _ _ _ h => h) (fun a1 w2 hA1 hM1 => ?_) _ _ ⟨rfl, rfl, rfl, rfl, rfl, rfl⟩ HM0.out
  change K a1 w2
  refine hK _ _ ?_
  clear hK K HM0
  have HM1 := Lib.hid hM1
  clear hM1
  refine hA1.elim (C := fun a => Code.wp Tryz.prog _ _ a w2) ?_
  clear hA1 w1
  intro u2 u3 u4 u7 u8 u9 u10 u11 u12 u13 u14 u15 u16 u17 u18 u19 u20 u21 u22 u23 u24 u25 u26 u27 u28 u29 u30 u31 u32 u33 u34 u35 u36 u37 u38 u39 u40 u41 u42 u43 u44 u45 u46 u47 u48 u49 u50 u51 u52 u53 u54 u55 u56 u57 u58 u59 u60 u61 u62 u63 u64 u65 u66 u67 u68 u69 u70 u71 u72 u73 u74 u75 u76 u77 u78 u79 u80 u81 u82 u83 u84 u85 u86 u87 u88 u89 u90 u91 u92 u93 u94 u95 u96 u97 u98 u99 u100 u101 u102 u103 u104 u105 u106 u107 u108 u109 u110 u111 u112 u113 u114 u115 u116 u117 u118 u119 u120 u121 u122 u123 u124 u125 u126 u127 u128 u129 u130 u131 u132 u133 u134 u135 u136 u137 u138 u139 u140 u141 u142 u143 u144 u145 u146 u147 u148 u149 u150 u151 u152 u153 u154 u155 u156 u157 u158 u159 u160 u161 u162 u163 u164 u165 u166 u167 u168 u169 u170 u171 u172 u173 u174 u175 u176 u177 u178 u179 u180 u181 u182 u183 u184 u185 u186 u187 u188 u189 u190 u191 u192 u193 u194 u195 u196 u197 u198 u199 u200 u201 u202 u203 u204 u205 u206 u207 u208 u209 u210 u211 u212 u213 u214 u215 u216 u217 u218 u219 u220 u221 u222 u223 u224 u225 u226 u227 u228 u229 u230 u231 u232 u233 u234 u235 u236 u237 u238 u239 u240 u241 u242 u243 u244 u245 u246 u247 u248 u249 u250 u251
  go_wp2_with fail
  rename_i K hK
  refine hb2_loop q w.heap.size (blkWord (sby s) 0) w _ (fun _ _ _ _ _ h => h) (fun a1 w3 hA1 hM2 => ?_) _ _ ⟨rfl, rfl, rfl, rfl, rfl⟩ HM1.out
  change K a1 w3
  refine hK _ _ ?_
  clear hK K HM1
  have HM2 := Lib.hid hM2
  clear hM2
  refine hA1.elim (C := fun a => Code.wp Tryz.prog _ _ a w3) ?_
  clear hA1 u2 u3 u4 u7 u8 u9 u10 u11 u12 u13 u14 u15 u16 u17 u18 u19 u20 u21 u22 u23 u24 u25 u26 u27 u28 u29 u30 u31 u32 u33 u34 u35 u36 u37 u38 u39 u40 u41 u42 u43 u44 u45 u46 u47 u48 u49 u50 u51 u52 u53 u54 u55 u56 u57 u58 u59 u60 u61 u62 u63 u64 u65 u66 u67 u68 u69 u70 u71 u72 u73 u74 u75 u76 u77 u78 u79 u80 u81 u82 u83 u84 u85 u86 u87 u88 u89 u90 u91 u92 u93 u94 u95 u96 u97 u98 u99 u100 u101 u102 u103 u104 u105 u106 u107 u108 u109 u110 u111 u112 u113 u114 u115 u116 u117 u118 u119 u120 u121 u122 u123 u124 u125 u126 u127 u128 u129 u130 u131 u132 u133 u134 u135 u136 u137 u138 u139 u140 u141 u142 u143 u144 u145 u146 u147 u148 u149 u150 u151 u152 u153 u154 u155 u156 u157 u158 u159 u160 u161 u162 u163 u164 u165 u166 u167 u168 u169 u170 u171 u172 u173 u174 u175 u176 u177 u178 u179 u180 u181 u182 u183 u184 u185 u186 u187 u188 u189 u190 u191 u192 u193 u194 u195 u196 u197 u198 u199 u200 u201 u202 u203 u204 u205 u206 u207 u208 u209 u210 u211 u212 u213 u214 u215 u216 u217 u218 u219 u220 u221 u222 u223 u224 u225 u226 u227 u228 u229 u230 u231 u232 u233 u234 u235 u236 u237 u238 u239 u240 u241 u242 u243 u244 u245 u246 u247 u248 u249 u250 u251
  intro u1 u2 u3 u4 u6 u8 u9 u10 u11 u12 u13 u14 u15 u16 u17 u18 u19 u20 u21 u22 u23 u24 u25 u26 u27 u28 u29 u30 u31 u32 u33 u34 u35 u36 u37 u38 u39 u40 u41 u42 u43 u44 u45 u46 u47 u48 u49 u50 u51 u52 u53 u54 u55 u56 u57 u58 u59 u60 u61 u62 u63 u64 u65 u66 u67 u68 u69 u70 u71 u72 u73 u74 u75 u76 u77 u78 u79 u80 u81 u82 u83 u84 u85 u86 u87 u88 u89 u90 u91 u92 u93 u94 u95 u96 u97 u98 u99 u100 u101 u102 u103 u104 u105 u106 u107 u108 u109 u110 u111 u112 u113 u114 u115 u116 u117 u118 u119 u120 u121 u122 u123 u124 u125 u126 u127 u128 u129 u130 u131 u132 u133 u134 u135 u136 u137 u138 u139 u140 u141 u142 u143 u144 u145 u146 u147 u148 u149 u150 u151 u152 u153 u154 u155 u156 u157 u158 u159 u160 u161 u162 u163 u164 u165 u166 u167 u168 u169 u170 u171 u172 u173 u174 u175 u176 u177 u178 u179 u180 u181 u182 u183 u184 u185 u186 u187 u188 u189 u190 u191 u192 u193 u194 u195 u196 u197 u198 u199 u200 u201 u202 u203 u204 u205 u206 u207 u208 u209 u210 u211 u212 u213 u214 u215 u216 u217 u218 u219 u220 u221 u222 u223 u224 u225 u226 u227 u228 u229 u230 u231 u232 u233 u234 u235 u236 u237 u238 u239 u240 u241 u242 u243 u244 u245 u246 u247 u248 u249 u250 u251
  go_wp2_with fail
  refine (helloround_any w3).mono ?_
  rintro e W ⟨rfl, hW⟩
  have hbW : Below w3.heap.size w3 W := by rw [hW]; exact (Below.refl _ _).alloc (Nat.le_refl _) _
  have hck : ∀ j, j < 64 → W.cell? ⟨w3.heap.size, j, none⟩ = some (.int .u32 (Kc.getD j 0)) := fun j hj => by rw [hW]; exact kc_cell w3 hj
  have hcv : ∀ j, j < 64 → W.cell? ⟨w.heap.size, j, none⟩ = some (.int .u32 (wd (blkWord (sby s) 0) j)) := fun j hj => bcellv hbW (HM2.out.word hj (Nat.le_refl _))
  have hBW : Below w.heap.size w W := HM2.out.low.trans (hbW.mono HM2.out.low.size)
  have HQ := Lib.hid (bblk hBW HQ0.out)
  have HCK := Lib.hid hck
  have HCV := Lib.hid hcv
  have HBW := Lib.hid hBW
  clear hW hbW hck hcv hBW HM2 HQ0
  generalize w3.heap.size = kk at HCK ⊢
  dsimp only
  have ka : W.cell? ⟨q, 0, none⟩ = some (.int .u32 h.a) := (bcell HQ.out 0).trans rfl
  have kb : W.cell? ⟨q, 1, none⟩ = some (.int .u32 h.b) := (bcell HQ.out 1).trans rfl
  have kc : W.cell? ⟨q, 2, none⟩ = some (.int .u32 h.c) := (bcell HQ.out 2).trans rfl
  have kd : W.cell? ⟨q, 3, none⟩ = some (.int .u32 h.d) := (bcell HQ.out 3).trans rfl
  have ke : W.cell? ⟨q, 4, none⟩ = some (.int .u32 h.e) := (bcell HQ.out 4).trans rfl
  have kf : W.cell? ⟨q, 5, none⟩ = some (.int .u32 h.f) := (bcell HQ.out 5).trans rfl
  have kg : W.cell? ⟨q, 6, none⟩ = some (.int .u32 h.g) := (bcell HQ.out 6).trans rfl
  have kh : W.cell? ⟨q, 7, none⟩ = some (.int .u32 h.h) := (bcell HQ.out 7).trans rfl
  go_upto_region 13 with fail
  refine wp_region_held (S := fun w2 => Below W.heap.size W w2) (by kernel_rfl) ?_
  change wpAnyH _ _ _ _ _ 16 _ _ W.drew
  have hS0 : Below W.heap.size W W.drew := (Below.refl _ _).drew
  refine wpAnyH_takeG (i := 0) (d := 122) (g := none) (op := (Op.move (Operand.tmp 0))) (v := .slice (some ⟨q, 0, none⟩) 8 8) (by kernel_rfl) (by kernel_rfl) (by kernel_rfl) (by kernel_rfl) (fun _ _ _ h => h) rfl (fun _ _ _ _ _ => by kernel_rfl) hS0 ?_
  refine wpAnyH_takeG (i := 1) (d := 123) (g := none) (op := (Op.indexAddr 106 (Operand.tmp 122) (Operand.const (Value.int IntKind.i64 0)))) (v := .pointer (some ⟨q, 0, none⟩)) (by kernel_rfl) (by kernel_rfl) (by kernel_rfl) (by kernel_rfl) (fun _ _ _ h => h) rfl (fun ty pos af w2 _ => idxh_run ty pos af (by kernel_rfl) (by kernel_rfl) w2 (idx106 (b := q) (n := 8) (k := 0) 8 (by decide) w2)) hS0 ?_
  refine wpAnyH_ldG (i := 2) (d := 124) (g := none) (t := 22) (x := (Operand.tmp 123)) (p := ⟨q, 0, none⟩) (u := .int .u32 h.a) (by kernel_rfl) (by kernel_rfl) (by kernel_rfl) (by kernel_rfl) (fun _ _ _ h => h) rfl (by kernel_rfl) (fun w2 h1 => ld22h w2 _ _ (bcellv h1 ka)) hS0 ?_
  refine wpAnyH_takeG (i := 3) (d := 125) (g := none) (op := (Op.move (Operand.tmp 0))) (v := .slice (some ⟨q, 0, none⟩) 8 8) (by kernel_rfl) (by kernel_rfl) (by kernel_rfl) (by kernel_rfl) (fun _ _ _ h => h) rfl (fun _ _ _ _ _ => by kernel_rfl) hS0 ?_
  refine wpAnyH_takeG (i := 4) (d := 126) (g := none) (op := (Op.indexAddr 106 (Operand.tmp 125) (Operand.const (Value.int IntKind.i64 1)))) (v := .pointer (some ⟨q, 1, none⟩)) (by kernel_rfl) (by kernel_rfl) (by kernel_rfl) (by kernel_rfl) (fun _ _ _ h => h) rfl (fun ty pos af w2 _ => idxh_run ty pos af (by kernel_rfl) (by kernel_rfl) w2 (idx106 (b := q) (n := 8) (k := 1) 8 (by decide) w2)) hS0 ?_
  refine wpAnyH_ldG (i := 5) (d := 127) (g := none) (t := 22) (x := (Operand.tmp 126)) (p := ⟨q, 1, none⟩) (u := .int .u32 h.b) (by kernel_rfl) (by kernel_rfl) (by kernel_rfl) (by kernel_rfl) (fun _ _ _ h => h) rfl (by kernel_rfl) (fun w2 h1 => ld22h w2 _ _ (bcellv h1 kb)) hS0 ?_
  refine wpAnyH_takeG (i := 6) (d := 128) (g := none) (op := (Op.move (Operand.tmp 0))) (v := .slice (some ⟨q, 0, none⟩) 8 8) (by kernel_rfl) (by kernel_rfl) (by kernel_rfl) (by kernel_rfl) (fun _ _ _ h => h) rfl (fun _ _ _ _ _ => by kernel_rfl) hS0 ?_
  refine wpAnyH_takeG (i := 7) (d := 129) (g := none) (op := (Op.indexAddr 106 (Operand.tmp 128) (Operand.const (Value.int IntKind.i64 2)))) (v := .pointer (some ⟨q, 2, none⟩)) (by kernel_rfl) (by kernel_rfl) (by kernel_rfl) (by kernel_rfl) (fun _ _ _ h => h) rfl (fun ty pos af w2 _ => idxh_run ty pos af (by kernel_rfl) (by kernel_rfl) w2 (idx106 (b := q) (n := 8) (k := 2) 8 (by decide) w2)) hS0 ?_
  refine wpAnyH_ldG (i := 8) (d := 130) (g := none) (t := 22) (x := (Operand.tmp 129)) (p := ⟨q, 2, none⟩) (u := .int .u32 h.c) (by kernel_rfl) (by kernel_rfl) (by kernel_rfl) (by kernel_rfl) (fun _ _ _ h => h) rfl (by kernel_rfl) (fun w2 h1 => ld22h w2 _ _ (bcellv h1 kc)) hS0 ?_
  refine wpAnyH_takeG (i := 9) (d := 131) (g := none) (op := (Op.move (Operand.tmp 0))) (v := .slice (some ⟨q, 0, none⟩) 8 8) (by kernel_rfl) (by kernel_rfl) (by kernel_rfl) (by kernel_rfl) (fun _ _ _ h => h) rfl (fun _ _ _ _ _ => by kernel_rfl) hS0 ?_
  refine wpAnyH_takeG (i := 10) (d := 132) (g := none) (op := (Op.indexAddr 106 (Operand.tmp 131) (Operand.const (Value.int IntKind.i64 3)))) (v := .pointer (some ⟨q, 3, none⟩)) (by kernel_rfl) (by kernel_rfl) (by kernel_rfl) (by kernel_rfl) (fun _ _ _ h => h) rfl (fun ty pos af w2 _ => idxh_run ty pos af (by kernel_rfl) (by kernel_rfl) w2 (idx106 (b := q) (n := 8) (k := 3) 8 (by decide) w2)) hS0 ?_
  refine wpAnyH_ldG (i := 11) (d := 133) (g := none) (t := 22) (x := (Operand.tmp 132)) (p := ⟨q, 3, none⟩) (u := .int .u32 h.d) (by kernel_rfl) (by kernel_rfl) (by kernel_rfl) (by kernel_rfl) (fun _ _ _ h => h) rfl (by kernel_rfl) (fun w2 h1 => ld22h w2 _ _ (bcellv h1 kd)) hS0 ?_
  refine wpAnyH_takeG (i := 12) (d := 11) (g := none) (op := (Op.assign (Operand.tmp 124))) (v := .int .u32 h.a) (by kernel_rfl) (by kernel_rfl) (by kernel_rfl) (by kernel_rfl) (fun _ _ _ h => h) rfl (fun _ _ _ _ _ => by kernel_rfl) hS0 ?_
  refine wpAnyH_takeG (i := 13) (d := 12) (g := none) (op := (Op.assign (Operand.tmp 127))) (v := .int .u32 h.b) (by kernel_rfl) (by kernel_rfl) (by kernel_rfl) (by kernel_rfl) (fun _ _ _ h => h) rfl (fun _ _ _ _ _ => by kernel_rfl) hS0 ?_
  refine wpAnyH_takeG (i := 14) (d := 13) (g := none) (op := (Op.assign (Operand.tmp 130))) (v := .int .u32 h.c) (by kernel_rfl) (by kernel_rfl) (by kernel_rfl) (by kernel_rfl) (fun _ _ _ h => h) rfl (fun _ _ _ _ _ => by kernel_rfl) hS0 ?_
  refine wpAnyH_takeG (i := 15) (d := 14) (g := none) (op := (Op.assign (Operand.tmp 133))) (v := .int .u32 h.d) (by kernel_rfl) (by kernel_rfl) (by kernel_rfl) (by kernel_rfl) (fun _ _ _ h => h) rfl (fun _ _ _ _ _ => by kernel_rfl) hS0 ?_
  refine wpAnyH_done (by kernel_rfl) ?_ 0
  simp only [Act.put, List.setIfInBounds_toArray, List.set_cons_zero, List.set_cons_succ]
  clear hS0
  have HQ1 := Lib.hid (show W.drew.heap[q]? = _ from HQ.out)
  have HCK1 := Lib.hid (show ∀ j, j < 64 → W.drew.cell? ⟨kk, j, none⟩ = some (.int .u32 (Kc.getD j 0)) from HCK.out)
  have HCV1 := Lib.hid (show ∀ j, j < 64 → W.drew.cell? ⟨w.heap.size, j, none⟩ = some (.int .u32 (wd (blkWord (sby s) 0) j)) from HCV.out)
  have HBW1 := Lib.hid HBW.out.drew
  clear ka kb kc kd ke kf kg kh HQ HCK HCV HBW
  generalize W.drew = W1 at HQ1 HCK1 HCV1 HBW1 ⊢
  have ka : W1.cell? ⟨q, 0, none⟩ = some (.int .u32 h.a) := (bcell HQ1.out 0).trans rfl
  have kb : W1.cell? ⟨q, 1, none⟩ = some (.int .u32 h.b) := (bcell HQ1.out 1).trans rfl
  have kc : W1.cell? ⟨q, 2, none⟩ = some (.int .u32 h.c) := (bcell HQ1.out 2).trans rfl
  have kd : W1.cell? ⟨q, 3, none⟩ = some (.int .u32 h.d) := (bcell HQ1.out 3).trans rfl
  have ke : W1.cell? ⟨q, 4, none⟩ = some (.int .u32 h.e) := (bcell HQ1.out 4).trans rfl
  have kf : W1.cell? ⟨q, 5, none⟩ = some (.int .u32 h.f) := (bcell HQ1.out 5).trans rfl
  have kg : W1.cell? ⟨q, 6, none⟩ = some (.int .u32 h.g) := (bcell HQ1.out 6).trans rfl
  have kh : W1.cell? ⟨q, 7, none⟩ = some (.int .u32 h.h) := (bcell HQ1.out 7).trans rfl
  go_upto_region 14 with fail
  refine wp_region_held (S := fun w2 => Below W1.heap.size W1 w2) (by kernel_rfl) ?_
  change wpAnyH _ _ _ _ _ 16 _ _ W1.drew
  have hS0 : Below W1.heap.size W1 W1.drew := (Below.refl _ _).drew
  refine wpAnyH_takeG (i := 0) (d := 134) (g := none) (op := (Op.move (Operand.tmp 0))) (v := .slice (some ⟨q, 0, none⟩) 8 8) (by kernel_rfl) (by kernel_rfl) (by kernel_rfl) (by kernel_rfl) (fun _ _ _ h => h) rfl (fun _ _ _ _ _ => by kernel_rfl) hS0 ?_
  refine wpAnyH_takeG (i := 1) (d := 135) (g := none) (op := (Op.indexAddr 106 (Operand.tmp 134) (Operand.const (Value.int IntKind.i64 4)))) (v := .pointer (some ⟨q, 4, none⟩)) (by kernel_rfl) (by kernel_rfl) (by kernel_rfl) (by kernel_rfl) (fun _ _ _ h => h) rfl (fun ty pos af w2 _ => idxh_run ty pos af (by kernel_rfl) (by kernel_rfl) w2 (idx106 (b := q) (n := 8) (k := 4) 8 (by decide) w2)) hS0 ?_
  refine wpAnyH_ldG (i := 2) (d := 136) (g := none) (t := 22) (x := (Operand.tmp 135)) (p := ⟨q, 4, none⟩) (u := .int .u32 h.e) (by kernel_rfl) (by kernel_rfl) (by kernel_rfl) (by kernel_rfl) (fun _ _ _ h => h) rfl (by kernel_rfl) (fun w2 h1 => ld22h w2 _ _ (bcellv h1 ke)) hS0 ?_
  refine wpAnyH_takeG (i := 3) (d := 137) (g := none) (op := (Op.move (Operand.tmp 0))) (v := .slice (some ⟨q, 0, none⟩) 8 8) (by kernel_rfl) (by kernel_rfl) (by kernel_rfl) (by kernel_rfl) (fun _ _ _ h => h) rfl (fun _ _ _ _ _ => by kernel_rfl) hS0 ?_
  refine wpAnyH_takeG (i := 4) (d := 138) (g := none) (op := (Op.indexAddr 106 (Operand.tmp 137) (Operand.const (Value.int IntKind.i64 5)))) (v := .pointer (some ⟨q, 5, none⟩)) (by kernel_rfl) (by kernel_rfl) (by kernel_rfl) (by kernel_rfl) (fun _ _ _ h => h) rfl (fun ty pos af w2 _ => idxh_run ty pos af (by kernel_rfl) (by kernel_rfl) w2 (idx106 (b := q) (n := 8) (k := 5) 8 (by decide) w2)) hS0 ?_
  refine wpAnyH_ldG (i := 5) (d := 139) (g := none) (t := 22) (x := (Operand.tmp 138)) (p := ⟨q, 5, none⟩) (u := .int .u32 h.f) (by kernel_rfl) (by kernel_rfl) (by kernel_rfl) (by kernel_rfl) (fun _ _ _ h => h) rfl (by kernel_rfl) (fun w2 h1 => ld22h w2 _ _ (bcellv h1 kf)) hS0 ?_
  refine wpAnyH_takeG (i := 6) (d := 140) (g := none) (op := (Op.move (Operand.tmp 0))) (v := .slice (some ⟨q, 0, none⟩) 8 8) (by kernel_rfl) (by kernel_rfl) (by kernel_rfl) (by kernel_rfl) (fun _ _ _ h => h) rfl (fun _ _ _ _ _ => by kernel_rfl) hS0 ?_
  refine wpAnyH_takeG (i := 7) (d := 141) (g := none) (op := (Op.indexAddr 106 (Operand.tmp 140) (Operand.const (Value.int IntKind.i64 6)))) (v := .pointer (some ⟨q, 6, none⟩)) (by kernel_rfl) (by kernel_rfl) (by kernel_rfl) (by kernel_rfl) (fun _ _ _ h => h) rfl (fun ty pos af w2 _ => idxh_run ty pos af (by kernel_rfl) (by kernel_rfl) w2 (idx106 (b := q) (n := 8) (k := 6) 8 (by decide) w2)) hS0 ?_
  refine wpAnyH_ldG (i := 8) (d := 142) (g := none) (t := 22) (x := (Operand.tmp 141)) (p := ⟨q, 6, none⟩) (u := .int .u32 h.g) (by kernel_rfl) (by kernel_rfl) (by kernel_rfl) (by kernel_rfl) (fun _ _ _ h => h) rfl (by kernel_rfl) (fun w2 h1 => ld22h w2 _ _ (bcellv h1 kg)) hS0 ?_
  refine wpAnyH_takeG (i := 9) (d := 143) (g := none) (op := (Op.move (Operand.tmp 0))) (v := .slice (some ⟨q, 0, none⟩) 8 8) (by kernel_rfl) (by kernel_rfl) (by kernel_rfl) (by kernel_rfl) (fun _ _ _ h => h) rfl (fun _ _ _ _ _ => by kernel_rfl) hS0 ?_
  refine wpAnyH_takeG (i := 10) (d := 144) (g := none) (op := (Op.indexAddr 106 (Operand.tmp 143) (Operand.const (Value.int IntKind.i64 7)))) (v := .pointer (some ⟨q, 7, none⟩)) (by kernel_rfl) (by kernel_rfl) (by kernel_rfl) (by kernel_rfl) (fun _ _ _ h => h) rfl (fun ty pos af w2 _ => idxh_run ty pos af (by kernel_rfl) (by kernel_rfl) w2 (idx106 (b := q) (n := 8) (k := 7) 8 (by decide) w2)) hS0 ?_
  refine wpAnyH_ldG (i := 11) (d := 145) (g := none) (t := 22) (x := (Operand.tmp 144)) (p := ⟨q, 7, none⟩) (u := .int .u32 h.h) (by kernel_rfl) (by kernel_rfl) (by kernel_rfl) (by kernel_rfl) (fun _ _ _ h => h) rfl (by kernel_rfl) (fun w2 h1 => ld22h w2 _ _ (bcellv h1 kh)) hS0 ?_
  refine wpAnyH_takeG (i := 12) (d := 15) (g := none) (op := (Op.assign (Operand.tmp 136))) (v := .int .u32 h.e) (by kernel_rfl) (by kernel_rfl) (by kernel_rfl) (by kernel_rfl) (fun _ _ _ h => h) rfl (fun _ _ _ _ _ => by kernel_rfl) hS0 ?_
  refine wpAnyH_takeG (i := 13) (d := 16) (g := none) (op := (Op.assign (Operand.tmp 139))) (v := .int .u32 h.f) (by kernel_rfl) (by kernel_rfl) (by kernel_rfl) (by kernel_rfl) (fun _ _ _ h => h) rfl (fun _ _ _ _ _ => by kernel_rfl) hS0 ?_
  refine wpAnyH_takeG (i := 14) (d := 17) (g := none) (op := (Op.assign (Operand.tmp 142))) (v := .int .u32 h.g) (by kernel_rfl) (by kernel_rfl) (by kernel_rfl) (by kernel_rfl) (fun _ _ _ h => h) rfl (fun _ _ _ _ _ => by kernel_rfl) hS0 ?_
  refine wpAnyH_takeG (i := 15) (d := 18) (g := none) (op := (Op.assign (Operand.tmp 145))) (v := .int .u32 h.h) (by kernel_rfl) (by kernel_rfl) (by kernel_rfl) (by kernel_rfl) (fun _ _ _ h => h) rfl (fun _ _ _ _ _ => by kernel_rfl) hS0 ?_
  refine wpAnyH_done (by kernel_rfl) ?_ 0
  simp only [Act.put, List.setIfInBounds_toArray, List.set_cons_zero, List.set_cons_succ]
  clear hS0
  have HQ2 := Lib.hid (show W1.drew.heap[q]? = _ from HQ1.out)
  have hck : ∀ j, j < 64 → W1.drew.cell? ⟨kk, j, none⟩ = some (.int .u32 (Kc.getD j 0)) := HCK1.out
  have hcv : ∀ j, j < 64 → W1.drew.cell? ⟨w.heap.size, j, none⟩ = some (.int .u32 (wd (blkWord (sby s) 0) j)) := HCV1.out
  have HBW2 := Lib.hid HBW1.out.drew
  clear ka kb kc kd ke kf kg kh HQ1 HCK1 HCV1 HBW1
  generalize W1.drew = W2 at HQ2 hck hcv HBW2 ⊢
  have HCK2 := Lib.hid hck
  have HCV2 := Lib.hid hcv
  clear hck hcv
  go_wp2_with fail
  rename_i K hK
  refine hb3_loop q w.heap.size kk (blkWord (sby s) 0) h W2 HCK2.out HCV2.out _ (fun _ _ _ _ _ h => h) (fun a1 W3 hA1 hb3 => ?_) _ ⟨rfl, rfl, rfl, rfl, rfl, rfl, rfl, rfl, rfl, rfl, rfl, rfl, rfl, rfl⟩
  change K a1 W3
  refine hK _ _ ?_
  have HBW3 := Lib.hid (HBW2.out.trans (hb3.mono HBW2.out.size))
  have HQ3 := Lib.hid (bblk hb3 HQ2.out)
  clear hK K HCK2 HCV2 hb3 HBW2 HQ2
  have HR := Lib.hid (show blk1 (sby s) 0 h = addSt h (rounds (blkWord (sby s) 0) h 64) from rfl)
  generalize rounds (blkWord (sby s) 0) h 64 = r at hA1 HR
  refine hA1.elim (C := fun a => Code.wp Tryz.prog _ _ a W3) ?_
  clear hA1 u1 u2 u3 u4 u6 u8 u9 u10 u11 u12 u13 u14 u15 u16 u17 u18 u19 u20 u21 u22 u23 u24 u25 u26 u27 u28 u29 u30 u31 u32 u33 u34 u35 u36 u37 u38 u39 u40 u41 u42 u43 u44 u45 u46 u47 u48 u49 u50 u51 u52 u53 u54 u55 u56 u57 u58 u59 u60 u61 u62 u63 u64 u65 u66 u67 u68 u69 u70 u71 u72 u73 u74 u75 u76 u77 u78 u79 u80 u81 u82 u83 u84 u85 u86 u87 u88 u89 u90 u91 u92 u93 u94 u95 u96 u97 u98 u99 u100 u101 u102 u103 u104 u105 u106 u107 u108 u109 u110 u111 u112 u113 u114 u115 u116 u117 u118 u119 u120 u121 u122 u123 u124 u125 u126 u127 u128 u129 u130 u131 u132 u133 u134 u135 u136 u137 u138 u139 u140 u141 u142 u143 u144 u145 u146 u147 u148 u149 u150 u151 u152 u153 u154 u155 u156 u157 u158 u159 u160 u161 u162 u163 u164 u165 u166 u167 u168 u169 u170 u171 u172 u173 u174 u175 u176 u177 u178 u179 u180 u181 u182 u183 u184 u185 u186 u187 u188 u189 u190 u191 u192 u193 u194 u195 u196 u197 u198 u199 u200 u201 u202 u203 u204 u205 u206 u207 u208 u209 u210 u211 u212 u213 u214 u215 u216 u217 u218 u219 u220 u221 u222 u223 u224 u225 u226 u227 u228 u229 u230 u231 u232 u233 u234 u235 u236 u237 u238 u239 u240 u241 u242 u243 u244 u245 u246 u247 u248 u249 u250 u251
  intro u1 u2 u3 u4 u6 u7 u8 u9 u20 u21 u22 u23 u24 u25 u26 u27 u28 u29 u30 u31 u32 u33 u34 u35 u36 u37 u38 u39 u40 u41 u42 u43 u44 u45 u46 u47 u48 u49 u50 u51 u52 u53 u54 u55 u56 u57 u58 u59 u60 u61 u62 u63 u64 u65 u66 u67 u68 u69 u70 u71 u72 u73 u74 u75 u76 u77 u78 u79 u80 u81 u82 u83 u84 u85 u86 u87 u88 u89 u90 u91 u92 u93 u94 u95 u96 u97 u98 u99 u100 u101 u102 u103 u104 u105 u106 u107 u108 u109 u110 u111 u112 u113 u114 u115 u116 u117 u118 u119 u120 u121 u122 u123 u124 u125 u126 u127 u128 u129 u130 u131 u132 u133 u134 u135 u136 u137 u138 u139 u140 u141 u142 u143 u144 u145 u146 u147 u148 u149 u150 u151 u152 u153 u154 u155 u156 u157 u158 u159 u160 u161 u162 u163 u164 u165 u166 u167 u168 u169 u170 u171 u172 u173 u174 u175 u176 u177 u178 u179 u180 u181 u182 u183 u184 u185 u186 u187 u188 u189 u190 u191 u192 u193 u194 u195 u196 u197 u198 u199 u200 u201 u202 u203 u204 u205 u206 u207 u208 u209 u210 u211 u212 u213 u214 u215 u216 u217 u218 u219 u220 u221 u222 u223 u224 u225 u226 u227 u228 u229 u230 u231 u232 u233 u234 u235 u236 u237 u238 u239 u240 u241 u242 u243 u244 u245 u246 u247 u248 u249 u250 u251
  have ka : W3.cell? ⟨q, 0, none⟩ = some (.int .u32 h.a) := (bcell HQ3.out 0).trans rfl
  have kb : W3.cell? ⟨q, 1, none⟩ = some (.int .u32 h.b) := (bcell HQ3.out 1).trans rfl
  have kc : W3.cell? ⟨q, 2, none⟩ = some (.int .u32 h.c) := (bcell HQ3.out 2).trans rfl
  have kd : W3.cell? ⟨q, 3, none⟩ = some (.int .u32 h.d) := (bcell HQ3.out 3).trans rfl
  have ke : W3.cell? ⟨q, 4, none⟩ = some (.int .u32 h.e) := (bcell HQ3.out 4).trans rfl
  have kf : W3.cell? ⟨q, 5, none⟩ = some (.int .u32 h.f) := (bcell HQ3.out 5).trans rfl
  have kg : W3.cell? ⟨q, 6, none⟩ = some (.int .u32 h.g) := (bcell HQ3.out 6).trans rfl
  have kh : W3.cell? ⟨q, 7, none⟩ = some (.int .u32 h.h) := (bcell HQ3.out 7).trans rfl
  go_upto_region 22 with fail
  refine wp_region_held (S := fun w2 => Below W3.heap.size W3 w2) (by kernel_rfl) ?_
  change wpAnyH _ _ _ _ _ 42 _ _ W3.drew
  have hS0 : Below W3.heap.size W3 W3.drew := (Below.refl _ _).drew
  refine wpAnyH_takeG (i := 0) (d := 211) (g := none) (op := (Op.move (Operand.tmp 0))) (v := .slice (some ⟨q, 0, none⟩) 8 8) (by kernel_rfl) (by kernel_rfl) (by kernel_rfl) (by kernel_rfl) (fun _ _ _ h => h) rfl (fun _ _ _ _ _ => by kernel_rfl) hS0 ?_
  refine wpAnyH_takeG (i := 1) (d := 212) (g := none) (op := (Op.indexAddr 106 (Operand.tmp 211) (Operand.const (Value.int IntKind.i64 0)))) (v := .pointer (some ⟨q, 0, none⟩)) (by kernel_rfl) (by kernel_rfl) (by kernel_rfl) (by kernel_rfl) (fun _ _ _ h => h) rfl (fun ty pos af w2 _ => idxh_run ty pos af (by kernel_rfl) (by kernel_rfl) w2 (idx106 (b := q) (n := 8) (k := 0) 8 (by decide) w2)) hS0 ?_
  refine wpAnyH_ldG (i := 2) (d := 213) (g := none) (t := 22) (x := (Operand.tmp 212)) (p := ⟨q, 0, none⟩) (u := .int .u32 h.a) (by kernel_rfl) (by kernel_rfl) (by kernel_rfl) (by kernel_rfl) (fun _ _ _ h => h) rfl (by kernel_rfl) (fun w2 h1 => ld22h w2 _ _ (bcellv h1 ka)) hS0 ?_
  refine wpAnyH_takeG (i := 3) (d := 214) (g := none) (op := (Op.move (Operand.tmp 11))) (v := .int .u32 r.a) (by kernel_rfl) (by kernel_rfl) (by kernel_rfl) (by kernel_rfl) (fun _ _ _ h => h) rfl (fun _ _ _ _ _ => by kernel_rfl) hS0 ?_
  refine wpAnyH_takeG (i := 4) (d := 215) (g := none) (op := (Op.binOp BinOp.add 22 (Operand.tmp 213) (Operand.tmp 214) 22)) (v := .int .u32 ((h.a + r.a) % 4294967296)) (by kernel_rfl) (by kernel_rfl) (by kernel_rfl) (by kernel_rfl) (fun _ _ _ h => h) rfl (fun _ _ _ _ _ => by kernel_rfl) hS0 ?_
  refine wpAnyH_takeG (i := 5) (d := 216) (g := none) (op := (Op.move (Operand.tmp 0))) (v := .slice (some ⟨q, 0, none⟩) 8 8) (by kernel_rfl) (by kernel_rfl) (by kernel_rfl) (by kernel_rfl) (fun _ _ _ h => h) rfl (fun _ _ _ _ _ => by kernel_rfl) hS0 ?_
  refine wpAnyH_takeG (i := 6) (d := 217) (g := none) (op := (Op.indexAddr 106 (Operand.tmp 216) (Operand.const (Value.int IntKind.i64 1)))) (v := .pointer (some ⟨q, 1, none⟩)) (by kernel_rfl) (by kernel_rfl) (by kernel_rfl) (by kernel_rfl) (fun _ _ _ h => h) rfl (fun ty pos af w2 _ => idxh_run ty pos af (by kernel_rfl) (by kernel_rfl) w2 (idx106 (b := q) (n := 8) (k := 1) 8 (by decide) w2)) hS0 ?_
  refine wpAnyH_ldG (i := 7) (d := 218) (g := none) (t := 22) (x := (Operand.tmp 217)) (p := ⟨q, 1, none⟩) (u := .int .u32 h.b) (by kernel_rfl) (by kernel_rfl) (by kernel_rfl) (by kernel_rfl) (fun _ _ _ h => h) rfl (by kernel_rfl) (fun w2 h1 => ld22h w2 _ _ (bcellv h1 kb)) hS0 ?_
  refine wpAnyH_takeG (i := 8) (d := 219) (g := none) (op := (Op.move (Operand.tmp 12))) (v := .int .u32 r.b) (by kernel_rfl) (by kernel_rfl) (by kernel_rfl) (by kernel_rfl) (fun _ _ _ h => h) rfl (fun _ _ _ _ _ => by kernel_rfl) hS0 ?_
  refine wpAnyH_takeG (i := 9) (d := 220) (g := none) (op := (Op.binOp BinOp.add 22 (Operand.tmp 218) (Operand.tmp 219) 22)) (v := .int .u32 ((h.b + r.b) % 4294967296)) (by kernel_rfl) (by kernel_rfl) (by kernel_rfl) (by kernel_rfl) (fun _ _ _ h => h) rfl (fun _ _ _ _ _ => by kernel_rfl) hS0 ?_
  refine wpAnyH_takeG (i := 10) (d := 221) (g := none) (op := (Op.move (Operand.tmp 0))) (v := .slice (some ⟨q, 0, none⟩) 8 8) (by kernel_rfl) (by kernel_rfl) (by kernel_rfl) (by kernel_rfl) (fun _ _ _ h => h) rfl (fun _ _ _ _ _ => by kernel_rfl) hS0 ?_
  refine wpAnyH_takeG (i := 11) (d := 222) (g := none) (op := (Op.indexAddr 106 (Operand.tmp 221) (Operand.const (Value.int IntKind.i64 2)))) (v := .pointer (some ⟨q, 2, none⟩)) (by kernel_rfl) (by kernel_rfl) (by kernel_rfl) (by kernel_rfl) (fun _ _ _ h => h) rfl (fun ty pos af w2 _ => idxh_run ty pos af (by kernel_rfl) (by kernel_rfl) w2 (idx106 (b := q) (n := 8) (k := 2) 8 (by decide) w2)) hS0 ?_
  refine wpAnyH_ldG (i := 12) (d := 223) (g := none) (t := 22) (x := (Operand.tmp 222)) (p := ⟨q, 2, none⟩) (u := .int .u32 h.c) (by kernel_rfl) (by kernel_rfl) (by kernel_rfl) (by kernel_rfl) (fun _ _ _ h => h) rfl (by kernel_rfl) (fun w2 h1 => ld22h w2 _ _ (bcellv h1 kc)) hS0 ?_
  refine wpAnyH_takeG (i := 13) (d := 224) (g := none) (op := (Op.move (Operand.tmp 13))) (v := .int .u32 r.c) (by kernel_rfl) (by kernel_rfl) (by kernel_rfl) (by kernel_rfl) (fun _ _ _ h => h) rfl (fun _ _ _ _ _ => by kernel_rfl) hS0 ?_
  refine wpAnyH_takeG (i := 14) (d := 225) (g := none) (op := (Op.binOp BinOp.add 22 (Operand.tmp 223) (Operand.tmp 224) 22)) (v := .int .u32 ((h.c + r.c) % 4294967296)) (by kernel_rfl) (by kernel_rfl) (by kernel_rfl) (by kernel_rfl) (fun _ _ _ h => h) rfl (fun _ _ _ _ _ => by kernel_rfl) hS0 ?_
  refine wpAnyH_takeG (i := 15) (d := 226) (g := none) (op := (Op.move (Operand.tmp 0))) (v := .slice (some ⟨q, 0, none⟩) 8 8) (by kernel_rfl) (by kernel_rfl) (by kernel_rfl) (by kernel_rfl) (fun _ _ _ h => h) rfl (fun _ _ _ _ _ => by kernel_rfl) hS0 ?_
  refine wpAnyH_takeG (i := 16) (d := 227) (g := none) (op := (Op.indexAddr 106 (Operand.tmp 226) (Operand.const (Value.int IntKind.i64 3)))) (v := .pointer (some ⟨q, 3, none⟩)) (by kernel_rfl) (by kernel_rfl) (by kernel_rfl) (by kernel_rfl) (fun _ _ _ h => h) rfl (fun ty pos af w2 _ => idxh_run ty pos af (by kernel_rfl) (by kernel_rfl) w2 (idx106 (b := q) (n := 8) (k := 3) 8 (by decide) w2)) hS0 ?_
  refine wpAnyH_ldG (i := 17) (d := 228) (g := none) (t := 22) (x := (Operand.tmp 227)) (p := ⟨q, 3, none⟩) (u := .int .u32 h.d) (by kernel_rfl) (by kernel_rfl) (by kernel_rfl) (by kernel_rfl) (fun _ _ _ h => h) rfl (by kernel_rfl) (fun w2 h1 => ld22h w2 _ _ (bcellv h1 kd)) hS0 ?_
  refine wpAnyH_takeG (i := 18) (d := 229) (g := none) (op := (Op.move (Operand.tmp 14))) (v := .int .u32 r.d) (by kernel_rfl) (by kernel_rfl) (by kernel_rfl) (by kernel_rfl) (fun _ _ _ h => h) rfl (fun _ _ _ _ _ => by kernel_rfl) hS0 ?_
  refine wpAnyH_takeG (i := 19) (d := 230) (g := none) (op := (Op.binOp BinOp.add 22 (Operand.tmp 228) (Operand.tmp 229) 22)) (v := .int .u32 ((h.d + r.d) % 4294967296)) (by kernel_rfl) (by kernel_rfl) (by kernel_rfl) (by kernel_rfl) (fun _ _ _ h => h) rfl (fun _ _ _ _ _ => by kernel_rfl) hS0 ?_
  refine wpAnyH_takeG (i := 20) (d := 231) (g := none) (op := (Op.move (Operand.tmp 0))) (v := .slice (some ⟨q, 0, none⟩) 8 8) (by kernel_rfl) (by kernel_rfl) (by kernel_rfl) (by kernel_rfl) (fun _ _ _ h => h) rfl (fun _ _ _ _ _ => by kernel_rfl) hS0 ?_
  refine wpAnyH_takeG (i := 21) (d := 232) (g := none) (op := (Op.indexAddr 106 (Operand.tmp 231) (Operand.const (Value.int IntKind.i64 4)))) (v := .pointer (some ⟨q, 4, none⟩)) (by kernel_rfl) (by kernel_rfl) (by kernel_rfl) (by kernel_rfl) (fun _ _ _ h => h) rfl (fun ty pos af w2 _ => idxh_run ty pos af (by kernel_rfl) (by kernel_rfl) w2 (idx106 (b := q) (n := 8) (k := 4) 8 (by decide) w2)) hS0 ?_
  refine wpAnyH_ldG (i := 22) (d := 233) (g := none) (t := 22) (x := (Operand.tmp 232)) (p := ⟨q, 4, none⟩) (u := .int .u32 h.e) (by kernel_rfl) (by kernel_rfl) (by kernel_rfl) (by kernel_rfl) (fun _ _ _ h => h) rfl (by kernel_rfl) (fun w2 h1 => ld22h w2 _ _ (bcellv h1 ke)) hS0 ?_
  refine wpAnyH_takeG (i := 23) (d := 234) (g := none) (op := (Op.move (Operand.tmp 15))) (v := .int .u32 r.e) (by kernel_rfl) (by kernel_rfl) (by kernel_rfl) (by kernel_rfl) (fun _ _ _ h => h) rfl (fun _ _ _ _ _ => by kernel_rfl) hS0 ?_
  refine wpAnyH_takeG (i := 24) (d := 235) (g := none) (op := (Op.binOp BinOp.add 22 (Operand.tmp 233) (Operand.tmp 234) 22)) (v := .int .u32 ((h.e + r.e) % 4294967296)) (by kernel_rfl) (by kernel_rfl) (by kernel_rfl) (by kernel_rfl) (fun _ _ _ h => h) rfl (fun _ _ _ _ _ => by kernel_rfl) hS0 ?_
  refine wpAnyH_takeG (i := 25) (d := 236) (g := none) (op := (Op.move (Operand.tmp 0))) (v := .slice (some ⟨q, 0, none⟩) 8 8) (by kernel_rfl) (by kernel_rfl) (by kernel_rfl) (by kernel_rfl) (fun _ _ _ h => h) rfl (fun _ _ _ _ _ => by kernel_rfl) hS0 ?_
  refine wpAnyH_takeG (i := 26) (d := 237) (g := none) (op := (Op.indexAddr 106 (Operand.tmp 236) (Operand.const (Value.int IntKind.i64 5)))) (v := .pointer (some ⟨q, 5, none⟩)) (by kernel_rfl) (by kernel_rfl) (by kernel_rfl) (by kernel_rfl) (fun _ _ _ h => h) rfl (fun ty pos af w2 _ => idxh_run ty pos af (by kernel_rfl) (by kernel_rfl) w2 (idx106 (b := q) (n := 8) (k := 5) 8 (by decide) w2)) hS0 ?_
  refine wpAnyH_ldG (i := 27) (d := 238) (g := none) (t := 22) (x := (Operand.tmp 237)) (p := ⟨q, 5, none⟩) (u := .int .u32 h.f) (by kernel_rfl) (by kernel_rfl) (by kernel_rfl) (by kernel_rfl) (fun _ _ _ h => h) rfl (by kernel_rfl) (fun w2 h1 => ld22h w2 _ _ (bcellv h1 kf)) hS0 ?_
  refine wpAnyH_takeG (i := 28) (d := 239) (g := none) (op := (Op.move (Operand.tmp 16))) (v := .int .u32 r.f) (by kernel_rfl) (by kernel_rfl) (by kernel_rfl) (by kernel_rfl) (fun _ _ _ h => h) rfl (fun _ _ _ _ _ => by kernel_rfl) hS0 ?_
  refine wpAnyH_takeG (i := 29) (d := 240) (g := none) (op := (Op.binOp BinOp.add 22 (Operand.tmp 238) (Operand.tmp 239) 22)) (v := .int .u32 ((h.f + r.f) % 4294967296)) (by kernel_rfl) (by kernel_rfl) (by kernel_rfl) (by kernel_rfl) (fun _ _ _ h => h) rfl (fun _ _ _ _ _ => by kernel_rfl) hS0 ?_
  refine wpAnyH_takeG (i := 30) (d := 241) (g := none) (op := (Op.move (Operand.tmp 0))) (v := .slice (some ⟨q, 0, none⟩) 8 8) (by kernel_rfl) (by kernel_rfl) (by kernel_rfl) (by kernel_rfl) (fun _ _ _ h => h) rfl (fun _ _ _ _ _ => by kernel_rfl) hS0 ?_
  refine wpAnyH_takeG (i := 31) (d := 242) (g := none) (op := (Op.indexAddr 106 (Operand.tmp 241) (Operand.const (Value.int IntKind.i64 6)))) (v := .pointer (some ⟨q, 6, none⟩)) (by kernel_rfl) (by kernel_rfl) (by kernel_rfl) (by kernel_rfl) (fun _ _ _ h => h) rfl (fun ty pos af w2 _ => idxh_run ty pos af (by kernel_rfl) (by kernel_rfl) w2 (idx106 (b := q) (n := 8) (k := 6) 8 (by decide) w2)) hS0 ?_
  refine wpAnyH_ldG (i := 32) (d := 243) (g := none) (t := 22) (x := (Operand.tmp 242)) (p := ⟨q, 6, none⟩) (u := .int .u32 h.g) (by kernel_rfl) (by kernel_rfl) (by kernel_rfl) (by kernel_rfl) (fun _ _ _ h => h) rfl (by kernel_rfl) (fun w2 h1 => ld22h w2 _ _ (bcellv h1 kg)) hS0 ?_
  refine wpAnyH_takeG (i := 33) (d := 244) (g := none) (op := (Op.move (Operand.tmp 17))) (v := .int .u32 r.g) (by kernel_rfl) (by kernel_rfl) (by kernel_rfl) (by kernel_rfl) (fun _ _ _ h => h) rfl (fun _ _ _ _ _ => by kernel_rfl) hS0 ?_
  refine wpAnyH_takeG (i := 34) (d := 245) (g := none) (op := (Op.binOp BinOp.add 22 (Operand.tmp 243) (Operand.tmp 244) 22)) (v := .int .u32 ((h.g + r.g) % 4294967296)) (by kernel_rfl) (by kernel_rfl) (by kernel_rfl) (by kernel_rfl) (fun _ _ _ h => h) rfl (fun _ _ _ _ _ => by kernel_rfl) hS0 ?_
  refine wpAnyH_takeG (i := 35) (d := 246) (g := none) (op := (Op.move (Operand.tmp 0))) (v := .slice (some ⟨q, 0, none⟩) 8 8) (by kernel_rfl) (by kernel_rfl) (by kernel_rfl) (by kernel_rfl) (fun _ _ _ h => h) rfl (fun _ _ _ _ _ => by kernel_rfl) hS0 ?_
  refine wpAnyH_takeG (i := 36) (d := 247) (g := none) (op := (Op.indexAddr 106 (Operand.tmp 246) (Operand.const (Value.int IntKind.i64 7)))) (v := .pointer (some ⟨q, 7, none⟩)) (by kernel_rfl) (by kernel_rfl) (by kernel_rfl) (by kernel_rfl) (fun _ _ _ h => h) rfl (fun ty pos af w2 _ => idxh_run ty pos af (by kernel_rfl) (by kernel_rfl) w2 (idx106 (b := q) (n := 8) (k := 7) 8 (by decide) w2)) hS0 ?_
  refine wpAnyH_ldG (i := 37) (d := 248) (g := none) (t := 22) (x := (Operand.tmp 247)) (p := ⟨q, 7, none⟩) (u := .int .u32 h.h) (by kernel_rfl) (by kernel_rfl) (by kernel_rfl) (by kernel_rfl) (fun _ _ _ h => h) rfl (by kernel_rfl) (fun w2 h1 => ld22h w2 _ _ (bcellv h1 kh)) hS0 ?_
  refine wpAnyH_takeG (i := 38) (d := 249) (g := none) (op := (Op.move (Operand.tmp 18))) (v := .int .u32 r.h) (by kernel_rfl) (by kernel_rfl) (by kernel_rfl) (by kernel_rfl) (fun _ _ _ h => h) rfl (fun _ _ _ _ _ => by kernel_rfl) hS0 ?_
  refine wpAnyH_takeG (i := 39) (d := 250) (g := none) (op := (Op.binOp BinOp.add 22 (Operand.tmp 248) (Operand.tmp 249) 22)) (v := .int .u32 ((h.h + r.h) % 4294967296)) (by kernel_rfl) (by kernel_rfl) (by kernel_rfl) (by kernel_rfl) (fun _ _ _ h => h) rfl (fun _ _ _ _ _ => by kernel_rfl) hS0 ?_
  refine wpAnyH_seq1 (i := 40) (d := 251) (op := (Op.buildSlice 106 8 #[(0, (Operand.tmp 215)), (1, (Operand.tmp 220)), (2, (Operand.tmp 225)), (3, (Operand.tmp 230)), (4, (Operand.tmp 235)), (5, (Operand.tmp 240)), (6, (Operand.tmp 245)), (7, (Operand.tmp 250))])) (v := .slice (some ⟨W3.heap.size, 0, none⟩) 8 8) (w' := W3.drew.alloc (.cells (stC (addSt h r)) 22)) (by kernel_rfl) (by kernel_rfl) (fun _ _ _ => by kernel_rfl) (hS0.alloc (by exact Nat.le_refl _) _) ?_
  refine wpAnyH_takeG (i := 41) (d := 4) (g := none) (op := (Op.assign (Operand.tmp 251))) (v := .slice (some ⟨W3.heap.size, 0, none⟩) 8 8) (by kernel_rfl) (by kernel_rfl) (by kernel_rfl) (by kernel_rfl) (fun _ _ _ h => h) rfl (fun _ _ _ _ _ => by kernel_rfl) (hS0.alloc (by exact Nat.le_refl _) _) ?_
  refine wpAnyH_done (by kernel_rfl) ?_ 0
  simp only [Act.put, List.setIfInBounds_toArray, List.set_cons_zero, List.set_cons_succ]
  have HB4 := Lib.hid (HBW3.out.trans (hS0.mono HBW3.out.size))
  have HE4 := Lib.hid (heap_alloc_new W3.drew (.cells (stC (addSt h r)) 22))
  clear hS0 ka kb kc kd ke kf kg kh HQ3
  go_wp2_with fail
  go_ret
  refine ⟨W3.heap.size, rfl, HBW3.out.size, ?_, HB4.out.alloc HB4.out.size _⟩
  rw [HR.out]
  exact HE4.out
end Go.Proofs.YtgnmgkpfgmpdfaaGreatDoor
end

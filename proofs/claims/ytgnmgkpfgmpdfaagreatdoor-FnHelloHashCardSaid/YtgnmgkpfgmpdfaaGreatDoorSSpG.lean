/- spec.mesRandom. -/
import Derived.Test.YtgnmgkpfgmpdfaaGreatDoorSSpC
import Derived.Test.YtgnmgkpfgmpdfaaGreatDoorSLds
import Derived.Test.YtgnmgkpfgmpdfaaGreatDoorSFitC
import Derived.Test.YtgnmgkpfgmpdfaaGreatDoorSOwned
set_option linter.unusedVariables false
set_option linter.unusedSimpArgs false
section
namespace Go.Proofs.YtgnmgkpfgmpdfaaGreatDoor
open Go.RowKit

theorem addS_run {a : Act} {x y : Operand} {m n : ByteArray} {d : Nat} {g : Option (Nat × Bool)} (ty : TypeId) (pos : String) (af : Array Edge) (hx : a.eval x = .string m) (hy : a.eval y = .string n) (h : m.size + n.size ≤ 9223372036854775807) {w : World} :
    (execOp a.eval ⟨some d, .binOp .add 9 x y 9, ty, pos, af, g⟩).run Tryz.prog w = .ok (.value (.string (m ++ n))) w := by
  have hr := run_string_add_sum (P := Tryz.prog) (w := w) m n h
  unfold execOp
  simp only [hx, hy]
  simp [go_sem, hr]
theorem ld22q (W : World) (p : Addr) (u : Value) (h : W.cell? p = some u) : (Instr.loadAt 22 (.pointer (some p))).run Tryz.prog W = .ok u W := ld22 W p u h
set_option maxHeartbeats 1000000 in
set_option maxRecDepth 100000 in
theorem mesrandom_any (M : MD) (w : World) (h28 : M.s5.size = 28) :
    Calls Tryz.prog 80 #[.agg M.es] w fun e w' => e = .returned (.tuple #[.string (numS (IntKind.u64.wrap M.x4) 4 ++ M.s5), .bool true]) ∧ Below w.heap.size w w' := by
  have hB1 : Below w.heap.size w (w.alloc (Obj.cells M.es 31)) := (Below.refl _ _).alloc (Nat.le_refl _) _
  have hM1 := heap_alloc_new w (Obj.cells M.es 31)
  have H28 := Lib.hid h28
  clear h28
  go_enter Tryz.func80, Tryz.ntmps80
  go_upto_region 1 with fail
  change Code.wp _ _ _ _ (w.alloc (Obj.cells M.es 31))
  generalize w.alloc (Obj.cells M.es 31) = w1 at hB1 hM1 ⊢
  have HB1 := Lib.hid hB1
  have k4 : w1.cell? ⟨w.heap.size, 4, none⟩ = some (.int .u32 M.x4) := (bcell hM1 4).trans rfl
  have k5 : w1.cell? ⟨w.heap.size, 5, none⟩ = some (.string M.s5) := (bcell hM1 5).trans rfl
  clear hB1 hM1
  refine wp_region_held (S := fun w2 => Below w1.heap.size w1 w2) (by kernel_rfl) ?_
  change wpAnyH _ _ _ _ _ 13 _ _ w1.drew
  have hS0 : Below w1.heap.size w1 w1.drew := (Below.refl _ _).drew
  refine wpAnyH_takeG (i := 0) (d := 4) (g := none) (op := (Op.fieldAddr 31 (Operand.tmp 1) 4)) (v := .pointer (some ⟨w.heap.size, 4, none⟩)) (by kernel_rfl) (by kernel_rfl) (by kernel_rfl) (by kernel_rfl) (fun _ _ _ h => h) rfl (fun _ _ _ _ _ => by kernel_rfl) hS0 ?_
  refine wpAnyH_ldG (i := 1) (d := 5) (g := none) (t := 22) (x := (Operand.tmp 4)) (p := ⟨w.heap.size, 4, none⟩) (u := .int .u32 M.x4) (by kernel_rfl) (by kernel_rfl) (by kernel_rfl) (by kernel_rfl) (fun _ _ _ h => h) rfl (by kernel_rfl) (fun w2 h1 => ld22 w2 _ _ (bcellv h1 k4)) hS0 ?_
  refine wpAnyH_takeG (i := 2) (d := 6) (g := none) (op := (Op.convert 22 108 (Operand.tmp 5))) (v := .int .u64 (IntKind.u64.wrap M.x4)) (by kernel_rfl) (by kernel_rfl) (by kernel_rfl) (by kernel_rfl) (fun _ _ _ h => h) rfl (fun _ _ _ _ _ => by kernel_rfl) hS0 ?_
  refine wpAnyH_takeG (i := 4) (d := 8) (g := none) (op := (Op.fieldAddr 31 (Operand.tmp 1) 5)) (v := .pointer (some ⟨w.heap.size, 5, none⟩)) (by kernel_rfl) (by kernel_rfl) (by kernel_rfl) (by kernel_rfl) (fun _ _ _ h => h) rfl (fun _ _ _ _ _ => by kernel_rfl) hS0 ?_
  refine wpAnyH_ldG (i := 5) (d := 9) (g := none) (t := 9) (x := (Operand.tmp 8)) (p := ⟨w.heap.size, 5, none⟩) (u := .string M.s5) (by kernel_rfl) (by kernel_rfl) (by kernel_rfl) (by kernel_rfl) (fun _ _ _ h => h) rfl (by kernel_rfl) (fun w2 h1 => ld9 w2 _ _ (bcellv h1 k5)) hS0 ?_
  refine wpAnyH_takeG (i := 7) (d := 11) (g := none) (op := (Op.fieldAddr 31 (Operand.tmp 1) 5)) (v := .pointer (some ⟨w.heap.size, 5, none⟩)) (by kernel_rfl) (by kernel_rfl) (by kernel_rfl) (by kernel_rfl) (fun _ _ _ h => h) rfl (fun _ _ _ _ _ => by kernel_rfl) hS0 ?_
  refine wpAnyH_ldG (i := 8) (d := 12) (g := none) (t := 9) (x := (Operand.tmp 11)) (p := ⟨w.heap.size, 5, none⟩) (u := .string M.s5) (by kernel_rfl) (by kernel_rfl) (by kernel_rfl) (by kernel_rfl) (fun _ _ _ h => h) rfl (by kernel_rfl) (fun w2 h1 => ld9 w2 _ _ (bcellv h1 k5)) hS0 ?_
  refine wpAnyH_takeG (i := 9) (d := 13) (g := none) (op := (Op.call { callee := (Callee.builtin Builtin.len), args := #[(Operand.tmp 12)], argTypes := #[9] })) (v := .int .i64 (M.s5.size : Int)) (by kernel_rfl) (by kernel_rfl) (by kernel_rfl) (by kernel_rfl) (fun _ _ _ h => h) rfl (fun _ _ _ _ _ => by kernel_rfl) hS0 ?_
  refine wpAnyH_takeG (i := 10) (d := 14) (g := none) (op := (Op.binOp BinOp.eql 3 (Operand.tmp 13) (Operand.const (Value.int IntKind.i64 28)) 3)) (v := .bool ((M.s5.size : Int) == 28)) (by kernel_rfl) (by kernel_rfl) (by kernel_rfl) (by kernel_rfl) (fun _ _ _ h => h) rfl (fun _ _ _ _ _ => by kernel_rfl) hS0 ?_
  refine wpAnyH_call (i := 3) (f := 65) (xs := #[(Operand.tmp 6), (Operand.const (Value.int IntKind.i64 4))]) (ats := #[108, 3]) (d := 7) (vs := #[.int .u64 (IntKind.u64.wrap M.x4), .int .i64 4]) (by kernel_rfl) (by kernel_rfl) (by kernel_rfl) (by kernel_rfl) ((recNum_any (IntKind.u64.wrap M.x4) 4 w1.drew (by omega) (by omega)).mono ?_)
  rintro e w3 ⟨rfl, hb3⟩
  have hS1 : Below w1.heap.size w1 w3 := hS0.trans (hb3.mono hS0.size)
  refine ⟨_, rfl, hS1, ?_⟩
  refine wpAnyH_takeG (i := 6) (d := 10) (g := none) (op := (Op.binOp BinOp.add 9 (Operand.tmp 7) (Operand.tmp 9) 9)) (v := .string (numS (IntKind.u64.wrap M.x4) 4 ++ M.s5)) (by kernel_rfl) (by kernel_rfl) (by kernel_rfl) (by kernel_rfl) (fun _ _ _ h => h) rfl (fun ty pos af w2 h1 => addS_run ty pos af (by kernel_rfl) (by kernel_rfl) (by rw [numS_size, H28.out]; decide)) hS1 ?_
  refine wpAnyH_takeG (i := 11) (d := 2) (g := none) (op := (Op.assign (Operand.tmp 10))) (v := .string (numS (IntKind.u64.wrap M.x4) 4 ++ M.s5)) (by kernel_rfl) (by kernel_rfl) (by kernel_rfl) (by kernel_rfl) (fun _ _ _ h => h) rfl (fun _ _ _ _ _ => by kernel_rfl) hS1 ?_
  refine wpAnyH_takeG (i := 12) (d := 3) (g := none) (op := (Op.assign (Operand.tmp 14))) (v := .bool ((M.s5.size : Int) == 28)) (by kernel_rfl) (by kernel_rfl) (by kernel_rfl) (by kernel_rfl) (fun _ _ _ h => h) rfl (fun _ _ _ _ _ => by kernel_rfl) hS1 ?_
  refine wpAnyH_done (by kernel_rfl) ?_ 0
  simp only [Act.put, List.setIfInBounds_toArray, List.set_cons_zero, List.set_cons_succ]
  have HBZ := Lib.hid (HB1.out.trans (hS1.mono HB1.out.size))
  clear hS0 hS1
  go_wp2_with fail
  go_ret2
  exact ⟨by rw [H28.out]; rfl, HBZ.out⟩
end Go.Proofs.YtgnmgkpfgmpdfaaGreatDoor
end

/- spec.MessageWrite of a client hello, by what mesClient writes. -/
section
namespace Go.Proofs.YtgnmgkpfgmpdfaaGreatDoor
open Go.RowKit

set_option maxHeartbeats 1000000 in
set_option maxRecDepth 100000 in
theorem messagewrite_any (M : MD) (S : ByteArray) (w : World) (h0 : M.x0 = 1)
    (hc : ∀ w1, Below w.heap.size w w1 → Calls Tryz.prog 47 #[.agg M.es] w1 fun e w' => e = .returned (.tuple #[.string S, .bool true]) ∧ Below w1.heap.size w1 w') :
    Calls Tryz.prog 24 #[.agg M.es] w fun e w' => e = .returned (.tuple #[.string S, .bool true]) ∧ Below w.heap.size w w' := by
  have hB1 : Below w.heap.size w (w.alloc (Obj.cells M.es 31)) := (Below.refl _ _).alloc (Nat.le_refl _) _
  have hM1 := heap_alloc_new w (Obj.cells M.es 31)
  have H0 := Lib.hid h0
  have HC := Lib.hid hc
  clear h0 hc
  go_enter Tryz.func24, Tryz.ntmps24
  go_upto_region 1 with fail
  change Code.wp _ _ _ _ (w.alloc (Obj.cells M.es 31))
  generalize w.alloc (Obj.cells M.es 31) = w1 at hB1 hM1 ⊢
  have HB1 := Lib.hid hB1
  have HM1 := Lib.hid hM1
  have k0 : w1.cell? ⟨w.heap.size, 0, none⟩ = some (.int .u8 1) := (bcell hM1 0).trans (by rw [← H0.out]; rfl)
  clear hB1 hM1
  go_wp2_with (with_reducible refine wpList_load_row rfl 31 (.tmp 1) rfl w.heap.size (by kernel_rfl) 31 M.es (0, 0) _ HM1.out Tryz.underlying31 rfl (hi31 M) ?_)
  refine (HC.out w1 HB1.out).mono ?_
  rintro e w3 ⟨rfl, hb3⟩
  have HB3 := Lib.hid (HB1.out.trans (hb3.mono HB1.out.size))
  clear hb3
  dsimp only
  go_wp2_with fail
  go_ret2
  exact ⟨rfl, HB3.out⟩
end Go.Proofs.YtgnmgkpfgmpdfaaGreatDoor
end

/- spec.HelloHash of a client hello, by what mesClient writes and Sha256 computes. -/
section
namespace Go.Proofs.YtgnmgkpfgmpdfaaGreatDoor
open Go.RowKit

/-- The message without its cookie and its extensions. -/
def bareM (M : MD) : MD := { M with s6 := ⟨#[]⟩, p10 := none, n10 := 0, c10 := 0 }
set_option maxHeartbeats 1000000 in
set_option maxRecDepth 100000 in
theorem spechash_any (M : MD) (S T : ByteArray) (w : World) (h0 : M.x0 = 1)
    (hc : ∀ w1, Below w.heap.size w w1 → Calls Tryz.prog 47 #[.agg (bareM M).es] w1 fun e w' => e = .returned (.tuple #[.string S, .bool true]) ∧ Below w1.heap.size w1 w')
    (ht : ∀ w1, Below w.heap.size w w1 → Calls Tryz.prog 25 #[.string S] w1 fun e w' => e = .returned (.string T) ∧ Below w1.heap.size w1 w') :
    Calls Tryz.prog 8 #[.agg M.es] w fun e w' => e = .returned (.tuple #[.string T, .bool true]) ∧ Below w.heap.size w w' := by
  have hB1 : Below w.heap.size w (w.alloc (Obj.cells M.es 31)) := (Below.refl _ _).alloc (Nat.le_refl _) _
  have hM1 := heap_alloc_new w (Obj.cells M.es 31)
  have H0 := Lib.hid h0
  have HC := Lib.hid hc
  have HT := Lib.hid ht
  clear h0 hc ht
  go_enter Tryz.func8, Tryz.ntmps8
  go_upto_region 1 with fail
  change Code.wp _ _ _ _ (w.alloc (Obj.cells M.es 31))
  generalize w.alloc (Obj.cells M.es 31) = w1 at hB1 hM1 ⊢
  have k6 : w1.cell? ⟨w.heap.size, 6, none⟩ = some (.string M.s6) := (bcell hM1 6).trans rfl
  have f6 := bfrozen hM1 6
  have hM2 := bset hM1 6 (.string ⟨#[]⟩)
  have k10 : (w1.setCell ⟨w.heap.size, 6, none⟩ (.string ⟨#[]⟩)).cell? ⟨w.heap.size, 10, none⟩ = some (.slice M.p10 M.n10 M.c10) := (bcell hM2 10).trans rfl
  have f10 := bfrozen hM2 10
  have hM3 : ((w1.setCell ⟨w.heap.size, 6, none⟩ (.string ⟨#[]⟩)).setCell ⟨w.heap.size, 10, none⟩ (.slice none 0 0)).heap[w.heap.size]? = some (.cells (bareM M).es 31 (0, 0)) := bset hM2 10 (.slice none 0 0)
  have hB3 : Below w.heap.size w ((w1.setCell ⟨w.heap.size, 6, none⟩ (.string ⟨#[]⟩)).setCell ⟨w.heap.size, 10, none⟩ (.slice none 0 0)) := (hB1.setCell (p := ⟨w.heap.size, 6, none⟩) (Nat.le_refl _) _).setCell (p := ⟨w.heap.size, 10, none⟩) (Nat.le_refl _) _
  clear hB1 hM1 hM2
  have HB3 := Lib.hid hB3
  have HM3 := Lib.hid hM3
  clear hB3 hM3
  go_upto_region 2 with fail
  generalize (w1.setCell ⟨w.heap.size, 6, none⟩ (.string ⟨#[]⟩)).setCell ⟨w.heap.size, 10, none⟩ (.slice none 0 0) = w3 at HB3 HM3 ⊢
  clear k6 f6 k10 f10
  go_wp2_with (with_reducible refine wpList_load_row rfl 31 (.tmp 1) rfl w.heap.size (by kernel_rfl) 31 (bareM M).es (0, 0) _ HM3.out Tryz.underlying31 rfl (hi31 _) ?_)
  refine (messagewrite_any (bareM M) S w3 H0.out (fun w4 h4 => HC.out w4 (HB3.out.trans (h4.mono HB3.out.size)))).mono ?_
  rintro e w4 ⟨rfl, hb4⟩
  have HB4 := Lib.hid (HB3.out.trans (hb4.mono HB3.out.size))
  clear hb4
  dsimp only
  go_wp2_with fail
  refine (HT.out w4 HB4.out).mono ?_
  rintro e w5 ⟨rfl, hb5⟩
  have HB5 := Lib.hid (HB4.out.trans (hb5.mono HB4.out.size))
  clear hb5
  dsimp only
  go_wp2_with fail
  go_ret2
  exact ⟨rfl, HB5.out⟩
end Go.Proofs.YtgnmgkpfgmpdfaaGreatDoor
end

/- spec.mesClient, by what its parts write. -/
section
namespace Go.Proofs.YtgnmgkpfgmpdfaaGreatDoor
open Go.RowKit

theorem load24q (W : World) (p : Addr) (u : Value) (h : W.cell? p = some u) : (Instr.loadAt 24 (.pointer (some p))).run Tryz.prog W = .ok u W := by
  simp [go_sem, Instr.loadAt, Instr.sureAddr, loadVar, h]
set_option maxHeartbeats 1000000 in
set_option maxRecDepth 100000 in
theorem mesclient_of (M : MD) (A R B G D F X : ByteArray) (w : World) (hz : A.size ≤ 70000 ∧ R.size ≤ 70000 ∧ B.size ≤ 70000 ∧ G.size ≤ 70000 ∧ D.size ≤ 70000 ∧ F.size ≤ 70000 ∧ X.size ≤ 70000) (h8 : M.n8 < 10000) (h9 : M.n9 < 256)
    (c80 : (∀ w1, Below w.heap.size w w1 → Calls Tryz.prog 80 #[.agg M.es] w1 fun e w2 => e = .returned (.tuple #[.string R, .bool true]) ∧ Below w1.heap.size w1 w2))
    (c54 : (∀ w1, Below w.heap.size w w1 → Calls Tryz.prog 54 #[.slice M.p10 M.n10 M.c10] w1 fun e w2 => e = .returned (.tuple #[.string X, .bool true]) ∧ Below w1.heap.size w1 w2))
    (c49 : (∀ w1, Below w.heap.size w w1 → Calls Tryz.prog 49 #[.agg M.es] w1 fun e w2 => e = .returned (.string A) ∧ Below w1.heap.size w1 w2))
    (c7 : (∀ w1, Below w.heap.size w w1 → Calls Tryz.prog 50 #[.string M.s7, .int .i64 1] w1 fun e w2 => e = .returned (.string B) ∧ Below w1.heap.size w1 w2))
    (c6 : (∀ w1, Below w.heap.size w w1 → Calls Tryz.prog 50 #[.string M.s6, .int .i64 1] w1 fun e w2 => e = .returned (.string G) ∧ Below w1.heap.size w1 w2))
    (c81 : (∀ w1, Below w.heap.size w w1 → Calls Tryz.prog 81 #[.slice M.p8 M.n8 M.c8] w1 fun e w2 => e = .returned (.string D) ∧ Below w1.heap.size w1 w2))
    (c82 : (∀ w1, Below w.heap.size w w1 → Calls Tryz.prog 82 #[.slice M.p9 M.n9 M.c9] w1 fun e w2 => e = .returned (.string F) ∧ Below w1.heap.size w1 w2))
    (l7 : (∀ w1, Below w.heap.size w w1 → Calls Tryz.prog 51 #[.string M.s7, .int .i64 1] w1 fun e w2 => e = .returned (.bool false) ∧ Below w1.heap.size w1 w2))
    (l6 : (∀ w1, Below w.heap.size w w1 → Calls Tryz.prog 51 #[.string M.s6, .int .i64 1] w1 fun e w2 => e = .returned (.bool false) ∧ Below w1.heap.size w1 w2)) :
    Calls Tryz.prog 47 #[.agg M.es] w fun e w' => e = .returned (.tuple #[.string (A ++ R ++ B ++ G ++ D ++ F ++ X), .bool true]) ∧ Below w.heap.size w w' := by
  obtain ⟨z1, z2, z3, z4, z5, z6, z7⟩ := hz
  have hB1 : Below w.heap.size w (w.alloc (Obj.cells M.es 31)) := (Below.refl _ _).alloc (Nat.le_refl _) _
  have hM1 := heap_alloc_new w (Obj.cells M.es 31)
  have Hc80 := Lib.hid c80
  have Hc54 := Lib.hid c54
  have Hc49 := Lib.hid c49
  have Hc7 := Lib.hid c7
  have Hc6 := Lib.hid c6
  have Hc81 := Lib.hid c81
  have Hc82 := Lib.hid c82
  have Hl7 := Lib.hid l7
  have Hl6 := Lib.hid l6
  have G8 := Lib.hid (show (M.n8 : Int) < 32768 by omega)
  have G9 := Lib.hid (show (M.n9 : Int) < 256 by omega)
  clear h8 h9 c80 c54 c49 c7 c6 c81 c82 l7 l6
  go_enter Tryz.func47, Tryz.ntmps47
  go_upto_region 1 with fail
  change Code.wp _ _ _ _ (w.alloc (Obj.cells M.es 31))
  generalize w.alloc (Obj.cells M.es 31) = w1 at hB1 hM1 ⊢
  have HB1 := Lib.hid hB1
  have HM1 := Lib.hid hM1
  clear hB1 hM1
  go_wp2_with (with_reducible refine wpList_load_row rfl 31 (.tmp 1) rfl w.heap.size (by kernel_rfl) 31 M.es (0, 0) _ HM1.out Tryz.underlying31 rfl (hi31 M) ?_)
  refine (Hc80.out w1 HB1.out).mono ?_
  rintro e w2 ⟨rfl, hb2⟩
  have HB2 := Lib.hid (HB1.out.trans (hb2.mono HB1.out.size))
  have hM2 := bblk hb2 HM1.out
  have k10 : w2.cell? ⟨w.heap.size, 10, none⟩ = some (.slice M.p10 M.n10 M.c10) := (bcell hM2 10).trans rfl
  have HM2 := Lib.hid hM2
  clear hb2 hM2
  dsimp only
  go_wp2_with fail
  refine (Hc54.out w2 HB2.out).mono ?_
  rintro e w3 ⟨rfl, hb3⟩
  have HB3 := Lib.hid (HB2.out.trans (hb3.mono HB2.out.size))
  have hM3 := bblk hb3 HM2.out
  have HM3 := Lib.hid hM3
  clear hb3 hM3 k10
  dsimp only
  go_upto_region 3 with fail
  refine wp_region_held (S := fun w4 => Below w3.heap.size w3 w4) (by kernel_rfl) ?_
  change wpAnyH _ _ _ _ _ 23 _ _ w3.drew
  have hS0 : Below w3.heap.size w3 w3.drew := (Below.refl _ _).drew
  refine wpAnyH_ldG (i := 0) (d := 20) (g := none) (t := 31) (x := (Operand.tmp 1)) (p := ⟨w.heap.size, 0, none⟩) (u := .agg M.es) (by kernel_rfl) (by kernel_rfl) (by kernel_rfl) (by kernel_rfl) (fun _ _ _ h => h) rfl (by kernel_rfl) (fun w4 h1 => loadRow w4 (bblk h1 HM3.out) Tryz.underlying31 rfl (hi31 M)) hS0 ?_
  refine wpAnyH_takeG (i := 2) (d := 22) (g := none) (op := (Op.move (Operand.tmp 4))) (v := .string R) (by kernel_rfl) (by kernel_rfl) (by kernel_rfl) (by kernel_rfl) (fun _ _ _ h => h) rfl (fun _ _ _ _ _ => by kernel_rfl) hS0 ?_
  refine wpAnyH_takeG (i := 4) (d := 24) (g := none) (op := (Op.fieldAddr 31 (Operand.tmp 1) 7)) (v := .pointer (some ⟨w.heap.size, 7, none⟩)) (by kernel_rfl) (by kernel_rfl) (by kernel_rfl) (by kernel_rfl) (fun _ _ _ h => h) rfl (fun _ _ _ _ _ => by kernel_rfl) hS0 ?_
  refine wpAnyH_ldG (i := 5) (d := 25) (g := none) (t := 9) (x := (Operand.tmp 24)) (p := ⟨w.heap.size, 7, none⟩) (u := .string M.s7) (by kernel_rfl) (by kernel_rfl) (by kernel_rfl) (by kernel_rfl) (fun _ _ _ h => h) rfl (by kernel_rfl) (fun w4 h1 => ld9 w4 _ _ ((bcell (bblk h1 HM3.out) 7).trans rfl)) hS0 ?_
  refine wpAnyH_takeG (i := 8) (d := 28) (g := none) (op := (Op.fieldAddr 31 (Operand.tmp 1) 6)) (v := .pointer (some ⟨w.heap.size, 6, none⟩)) (by kernel_rfl) (by kernel_rfl) (by kernel_rfl) (by kernel_rfl) (fun _ _ _ h => h) rfl (fun _ _ _ _ _ => by kernel_rfl) hS0 ?_
  refine wpAnyH_ldG (i := 9) (d := 29) (g := none) (t := 9) (x := (Operand.tmp 28)) (p := ⟨w.heap.size, 6, none⟩) (u := .string M.s6) (by kernel_rfl) (by kernel_rfl) (by kernel_rfl) (by kernel_rfl) (fun _ _ _ h => h) rfl (by kernel_rfl) (fun w4 h1 => ld9 w4 _ _ ((bcell (bblk h1 HM3.out) 6).trans rfl)) hS0 ?_
  refine wpAnyH_takeG (i := 12) (d := 32) (g := none) (op := (Op.fieldAddr 31 (Operand.tmp 1) 8)) (v := .pointer (some ⟨w.heap.size, 8, none⟩)) (by kernel_rfl) (by kernel_rfl) (by kernel_rfl) (by kernel_rfl) (fun _ _ _ h => h) rfl (fun _ _ _ _ _ => by kernel_rfl) hS0 ?_
  refine wpAnyH_ldG (i := 13) (d := 33) (g := none) (t := 23) (x := (Operand.tmp 32)) (p := ⟨w.heap.size, 8, none⟩) (u := .slice M.p8 M.n8 M.c8) (by kernel_rfl) (by kernel_rfl) (by kernel_rfl) (by kernel_rfl) (fun _ _ _ h => h) rfl (by kernel_rfl) (fun w4 h1 => ld23 w4 _ _ ((bcell (bblk h1 HM3.out) 8).trans rfl)) hS0 ?_
  refine wpAnyH_takeG (i := 16) (d := 36) (g := none) (op := (Op.fieldAddr 31 (Operand.tmp 1) 9)) (v := .pointer (some ⟨w.heap.size, 9, none⟩)) (by kernel_rfl) (by kernel_rfl) (by kernel_rfl) (by kernel_rfl) (fun _ _ _ h => h) rfl (fun _ _ _ _ _ => by kernel_rfl) hS0 ?_
  refine wpAnyH_ldG (i := 17) (d := 37) (g := none) (t := 24) (x := (Operand.tmp 36)) (p := ⟨w.heap.size, 9, none⟩) (u := .slice M.p9 M.n9 M.c9) (by kernel_rfl) (by kernel_rfl) (by kernel_rfl) (by kernel_rfl) (fun _ _ _ h => h) rfl (by kernel_rfl) (fun w4 h1 => load24q w4 _ _ ((bcell (bblk h1 HM3.out) 9).trans rfl)) hS0 ?_
  refine wpAnyH_takeG (i := 20) (d := 40) (g := none) (op := (Op.move (Operand.tmp 6))) (v := .string X) (by kernel_rfl) (by kernel_rfl) (by kernel_rfl) (by kernel_rfl) (fun _ _ _ h => h) rfl (fun _ _ _ _ _ => by kernel_rfl) hS0 ?_
  refine wpAnyH_call (i := 1) (f := 49) (xs := #[(Operand.tmp 20)]) (ats := #[31]) (d := 21) (vs := #[.agg M.es]) (by kernel_rfl) (by kernel_rfl) (by kernel_rfl) (by kernel_rfl) ((Hc49.out w3.drew (HB3.out.trans (hS0.mono HB3.out.size))).mono ?_)
  rintro e v0 ⟨rfl, hb⟩
  have hS1 : Below w3.heap.size w3 v0 := hS0.trans (hb.mono hS0.size)
  clear hb
  refine ⟨_, rfl, hS1, ?_⟩
  refine wpAnyH_takeG (i := 3) (d := 23) (g := none) (op := (Op.binOp BinOp.add 9 (Operand.tmp 21) (Operand.tmp 22) 9)) (v := .string (A ++ R)) (by kernel_rfl) (by kernel_rfl) (by kernel_rfl) (by kernel_rfl) (fun _ _ _ h => h) rfl (fun ty pos af w4 h1 => addS_run ty pos af (by kernel_rfl) (by kernel_rfl) (by first | omega | (simp only [ByteArray.size_append]; omega))) hS1 ?_
  refine wpAnyH_call (i := 6) (f := 50) (xs := #[(Operand.tmp 25), (Operand.const (Value.int IntKind.i64 1))]) (ats := #[9, 3]) (d := 26) (vs := #[.string M.s7, .int .i64 1]) (by kernel_rfl) (by kernel_rfl) (by kernel_rfl) (by kernel_rfl) ((Hc7.out v0 (HB3.out.trans (hS1.mono HB3.out.size))).mono ?_)
  rintro e v1 ⟨rfl, hb⟩
  have hS2 : Below w3.heap.size w3 v1 := hS1.trans (hb.mono hS1.size)
  clear hb
  refine ⟨_, rfl, hS2, ?_⟩
  refine wpAnyH_takeG (i := 7) (d := 27) (g := none) (op := (Op.binOp BinOp.add 9 (Operand.tmp 23) (Operand.tmp 26) 9)) (v := .string (A ++ R ++ B)) (by kernel_rfl) (by kernel_rfl) (by kernel_rfl) (by kernel_rfl) (fun _ _ _ h => h) rfl (fun ty pos af w4 h1 => addS_run ty pos af (by kernel_rfl) (by kernel_rfl) (by first | omega | (simp only [ByteArray.size_append]; omega))) hS2 ?_
  refine wpAnyH_call (i := 10) (f := 50) (xs := #[(Operand.tmp 29), (Operand.const (Value.int IntKind.i64 1))]) (ats := #[9, 3]) (d := 30) (vs := #[.string M.s6, .int .i64 1]) (by kernel_rfl) (by kernel_rfl) (by kernel_rfl) (by kernel_rfl) ((Hc6.out v1 (HB3.out.trans (hS2.mono HB3.out.size))).mono ?_)
  rintro e v2 ⟨rfl, hb⟩
  have hS3 : Below w3.heap.size w3 v2 := hS2.trans (hb.mono hS2.size)
  clear hb
  refine ⟨_, rfl, hS3, ?_⟩
  refine wpAnyH_takeG (i := 11) (d := 31) (g := none) (op := (Op.binOp BinOp.add 9 (Operand.tmp 27) (Operand.tmp 30) 9)) (v := .string (A ++ R ++ B ++ G)) (by kernel_rfl) (by kernel_rfl) (by kernel_rfl) (by kernel_rfl) (fun _ _ _ h => h) rfl (fun ty pos af w4 h1 => addS_run ty pos af (by kernel_rfl) (by kernel_rfl) (by first | omega | (simp only [ByteArray.size_append]; omega))) hS3 ?_
  refine wpAnyH_call (i := 14) (f := 81) (xs := #[(Operand.tmp 33)]) (ats := #[23]) (d := 34) (vs := #[.slice M.p8 M.n8 M.c8]) (by kernel_rfl) (by kernel_rfl) (by kernel_rfl) (by kernel_rfl) ((Hc81.out v2 (HB3.out.trans (hS3.mono HB3.out.size))).mono ?_)
  rintro e v3 ⟨rfl, hb⟩
  have hS4 : Below w3.heap.size w3 v3 := hS3.trans (hb.mono hS3.size)
  clear hb
  refine ⟨_, rfl, hS4, ?_⟩
  refine wpAnyH_takeG (i := 15) (d := 35) (g := none) (op := (Op.binOp BinOp.add 9 (Operand.tmp 31) (Operand.tmp 34) 9)) (v := .string (A ++ R ++ B ++ G ++ D)) (by kernel_rfl) (by kernel_rfl) (by kernel_rfl) (by kernel_rfl) (fun _ _ _ h => h) rfl (fun ty pos af w4 h1 => addS_run ty pos af (by kernel_rfl) (by kernel_rfl) (by first | omega | (simp only [ByteArray.size_append]; omega))) hS4 ?_
  refine wpAnyH_call (i := 18) (f := 82) (xs := #[(Operand.tmp 37)]) (ats := #[24]) (d := 38) (vs := #[.slice M.p9 M.n9 M.c9]) (by kernel_rfl) (by kernel_rfl) (by kernel_rfl) (by kernel_rfl) ((Hc82.out v3 (HB3.out.trans (hS4.mono HB3.out.size))).mono ?_)
  rintro e v4 ⟨rfl, hb⟩
  have hS5 : Below w3.heap.size w3 v4 := hS4.trans (hb.mono hS4.size)
  clear hb
  refine ⟨_, rfl, hS5, ?_⟩
  refine wpAnyH_takeG (i := 19) (d := 39) (g := none) (op := (Op.binOp BinOp.add 9 (Operand.tmp 35) (Operand.tmp 38) 9)) (v := .string (A ++ R ++ B ++ G ++ D ++ F)) (by kernel_rfl) (by kernel_rfl) (by kernel_rfl) (by kernel_rfl) (fun _ _ _ h => h) rfl (fun ty pos af w4 h1 => addS_run ty pos af (by kernel_rfl) (by kernel_rfl) (by first | omega | (simp only [ByteArray.size_append]; omega))) hS5 ?_
  refine wpAnyH_takeG (i := 21) (d := 41) (g := none) (op := (Op.binOp BinOp.add 9 (Operand.tmp 39) (Operand.tmp 40) 9)) (v := .string (A ++ R ++ B ++ G ++ D ++ F ++ X)) (by kernel_rfl) (by kernel_rfl) (by kernel_rfl) (by kernel_rfl) (fun _ _ _ h => h) rfl (fun ty pos af w4 h1 => addS_run ty pos af (by kernel_rfl) (by kernel_rfl) (by first | omega | (simp only [ByteArray.size_append]; omega))) hS5 ?_
  refine wpAnyH_takeG (i := 22) (d := 8) (g := none) (op := (Op.assign (Operand.tmp 41))) (v := .string (A ++ R ++ B ++ G ++ D ++ F ++ X)) (by kernel_rfl) (by kernel_rfl) (by kernel_rfl) (by kernel_rfl) (fun _ _ _ h => h) rfl (fun _ _ _ _ _ => by kernel_rfl) hS5 ?_
  refine wpAnyH_done (by kernel_rfl) ?_ 0
  simp only [Act.put, List.setIfInBounds_toArray, List.set_cons_zero, List.set_cons_succ]
  have HBY := Lib.hid (HB3.out.trans (hS5.mono HB3.out.size))
  have hMY := bblk hS5 HM3.out
  have HMY := Lib.hid hMY
  clear hS0 hS1 hS2 hS3 hS4 hS5 hMY
  generalize hT : A ++ R ++ B ++ G ++ D ++ F ++ X = T
  go_upto_region 4 with fail
  refine wp_region_held (S := fun w4 => Below v4.heap.size v4 w4) (by kernel_rfl) ?_
  change wpAnyH _ _ _ _ _ 31 _ _ v4.drew
  have hS0 : Below v4.heap.size v4 v4.drew := (Below.refl _ _).drew
  refine wpAnyH_takeG (i := 0) (d := 42) (g := none) (op := (Op.move (Operand.tmp 8))) (v := .string T) (by kernel_rfl) (by kernel_rfl) (by kernel_rfl) (by kernel_rfl) (fun _ _ _ h => h) rfl (fun _ _ _ _ _ => by kernel_rfl) hS0 ?_
  refine wpAnyH_takeG (i := 1) (d := 43) (g := none) (op := (Op.move (Operand.tmp 5))) (v := .bool true) (by kernel_rfl) (by kernel_rfl) (by kernel_rfl) (by kernel_rfl) (fun _ _ _ h => h) rfl (fun _ _ _ _ _ => by kernel_rfl) hS0 ?_
  refine wpAnyH_takeG (i := 2) (d := 44) (g := none) (op := (Op.move (Operand.tmp 43))) (v := .bool true) (by kernel_rfl) (by kernel_rfl) (by kernel_rfl) (by kernel_rfl) (fun _ _ _ h => h) rfl (fun _ _ _ _ _ => by kernel_rfl) hS0 ?_
  refine wpAnyH_takeG (i := 3) (d := 45) (g := (some (2, true))) (op := (Op.move (Operand.tmp 7))) (v := .bool true) (by kernel_rfl) (by kernel_rfl) (by kernel_rfl) (by kernel_rfl) (fun _ _ _ h => h) (by kernel_rfl) (fun _ _ _ _ _ => by kernel_rfl) hS0 ?_
  refine wpAnyH_takeG (i := 4) (d := 46) (g := none) (op := (Op.pick (Operand.tmp 44) (Operand.tmp 45) (Operand.const (Value.bool false)))) (v := .bool true) (by kernel_rfl) (by kernel_rfl) (by kernel_rfl) (by kernel_rfl) (fun _ _ _ h => h) rfl (fun _ _ _ _ _ => by kernel_rfl) hS0 ?_
  refine wpAnyH_takeG (i := 5) (d := 47) (g := none) (op := (Op.move (Operand.tmp 46))) (v := .bool true) (by kernel_rfl) (by kernel_rfl) (by kernel_rfl) (by kernel_rfl) (fun _ _ _ h => h) rfl (fun _ _ _ _ _ => by kernel_rfl) hS0 ?_
  refine wpAnyH_takeG (i := 6) (d := 48) (g := (some (5, true))) (op := (Op.fieldAddr 31 (Operand.tmp 1) 7)) (v := .pointer (some ⟨w.heap.size, 7, none⟩)) (by kernel_rfl) (by kernel_rfl) (by kernel_rfl) (by kernel_rfl) (fun _ _ _ h => h) (by kernel_rfl) (fun _ _ _ _ _ => by kernel_rfl) hS0 ?_
  refine wpAnyH_ldG (i := 7) (d := 49) (g := (some (5, true))) (t := 9) (x := (Operand.tmp 48)) (p := ⟨w.heap.size, 7, none⟩) (u := .string M.s7) (by kernel_rfl) (by kernel_rfl) (by kernel_rfl) (by kernel_rfl) (fun _ _ _ h => h) (by kernel_rfl) (by kernel_rfl) (fun w4 h1 => ld9 w4 _ _ ((bcell (bblk h1 HMY.out) 7).trans rfl)) hS0 ?_
  refine wpAnyH_callG (i := 8) (g := some (5, true)) (f := 51) (xs := #[(Operand.tmp 49), (Operand.const (Value.int IntKind.i64 1))]) (ats := #[9, 3]) (d := 50) (vs := #[.string M.s7, .int .i64 1]) (by kernel_rfl) (by kernel_rfl) (by kernel_rfl) (by kernel_rfl) (by kernel_rfl) ((Hl7.out v4.drew (HBY.out.trans (hS0.mono HBY.out.size))).mono ?_)
  rintro e x0 ⟨rfl, hb⟩
  have hT1 : Below v4.heap.size v4 x0 := hS0.trans (hb.mono hS0.size)
  clear hb
  refine ⟨_, rfl, hT1, ?_⟩
  refine wpAnyH_takeG (i := 9) (d := 51) (g := (some (5, true))) (op := (Op.unOp UnOp.not 4 (Operand.tmp 50))) (v := .bool true) (by kernel_rfl) (by kernel_rfl) (by kernel_rfl) (by kernel_rfl) (fun _ _ _ h => h) (by kernel_rfl) (fun _ _ _ _ _ => by kernel_rfl) hT1 ?_
  refine wpAnyH_takeG (i := 10) (d := 52) (g := none) (op := (Op.pick (Operand.tmp 47) (Operand.tmp 51) (Operand.const (Value.bool false)))) (v := .bool true) (by kernel_rfl) (by kernel_rfl) (by kernel_rfl) (by kernel_rfl) (fun _ _ _ h => h) rfl (fun _ _ _ _ _ => by kernel_rfl) hT1 ?_
  refine wpAnyH_takeG (i := 11) (d := 53) (g := none) (op := (Op.move (Operand.tmp 52))) (v := .bool true) (by kernel_rfl) (by kernel_rfl) (by kernel_rfl) (by kernel_rfl) (fun _ _ _ h => h) rfl (fun _ _ _ _ _ => by kernel_rfl) hT1 ?_
  refine wpAnyH_takeG (i := 12) (d := 54) (g := (some (11, true))) (op := (Op.fieldAddr 31 (Operand.tmp 1) 6)) (v := .pointer (some ⟨w.heap.size, 6, none⟩)) (by kernel_rfl) (by kernel_rfl) (by kernel_rfl) (by kernel_rfl) (fun _ _ _ h => h) (by kernel_rfl) (fun _ _ _ _ _ => by kernel_rfl) hT1 ?_
  refine wpAnyH_ldG (i := 13) (d := 55) (g := (some (11, true))) (t := 9) (x := (Operand.tmp 54)) (p := ⟨w.heap.size, 6, none⟩) (u := .string M.s6) (by kernel_rfl) (by kernel_rfl) (by kernel_rfl) (by kernel_rfl) (fun _ _ _ h => h) (by kernel_rfl) (by kernel_rfl) (fun w4 h1 => ld9 w4 _ _ ((bcell (bblk h1 HMY.out) 6).trans rfl)) hT1 ?_
  refine wpAnyH_callG (i := 14) (g := some (11, true)) (f := 51) (xs := #[(Operand.tmp 55), (Operand.const (Value.int IntKind.i64 1))]) (ats := #[9, 3]) (d := 56) (vs := #[.string M.s6, .int .i64 1]) (by kernel_rfl) (by kernel_rfl) (by kernel_rfl) (by kernel_rfl) (by kernel_rfl) ((Hl6.out x0 (HBY.out.trans (hT1.mono HBY.out.size))).mono ?_)
  rintro e x1 ⟨rfl, hb⟩
  have hT2 : Below v4.heap.size v4 x1 := hT1.trans (hb.mono hT1.size)
  clear hb
  refine ⟨_, rfl, hT2, ?_⟩
  refine wpAnyH_takeG (i := 15) (d := 57) (g := (some (11, true))) (op := (Op.unOp UnOp.not 4 (Operand.tmp 56))) (v := .bool true) (by kernel_rfl) (by kernel_rfl) (by kernel_rfl) (by kernel_rfl) (fun _ _ _ h => h) (by kernel_rfl) (fun _ _ _ _ _ => by kernel_rfl) hT2 ?_
  refine wpAnyH_takeG (i := 16) (d := 58) (g := none) (op := (Op.pick (Operand.tmp 53) (Operand.tmp 57) (Operand.const (Value.bool false)))) (v := .bool true) (by kernel_rfl) (by kernel_rfl) (by kernel_rfl) (by kernel_rfl) (fun _ _ _ h => h) rfl (fun _ _ _ _ _ => by kernel_rfl) hT2 ?_
  refine wpAnyH_takeG (i := 17) (d := 59) (g := none) (op := (Op.move (Operand.tmp 58))) (v := .bool true) (by kernel_rfl) (by kernel_rfl) (by kernel_rfl) (by kernel_rfl) (fun _ _ _ h => h) rfl (fun _ _ _ _ _ => by kernel_rfl) hT2 ?_
  refine wpAnyH_takeG (i := 18) (d := 60) (g := (some (17, true))) (op := (Op.fieldAddr 31 (Operand.tmp 1) 8)) (v := .pointer (some ⟨w.heap.size, 8, none⟩)) (by kernel_rfl) (by kernel_rfl) (by kernel_rfl) (by kernel_rfl) (fun _ _ _ h => h) (by kernel_rfl) (fun _ _ _ _ _ => by kernel_rfl) hT2 ?_
  refine wpAnyH_ldG (i := 19) (d := 61) (g := (some (17, true))) (t := 23) (x := (Operand.tmp 60)) (p := ⟨w.heap.size, 8, none⟩) (u := .slice M.p8 M.n8 M.c8) (by kernel_rfl) (by kernel_rfl) (by kernel_rfl) (by kernel_rfl) (fun _ _ _ h => h) (by kernel_rfl) (by kernel_rfl) (fun w4 h1 => ld23 w4 _ _ ((bcell (bblk h1 HMY.out) 8).trans rfl)) hT2 ?_
  refine wpAnyH_takeG (i := 20) (d := 62) (g := (some (17, true))) (op := (Op.call { callee := (Callee.builtin Builtin.len), args := #[(Operand.tmp 61)], argTypes := #[23] })) (v := .int .i64 (M.n8 : Int)) (by kernel_rfl) (by kernel_rfl) (by kernel_rfl) (by kernel_rfl) (fun _ _ _ h => h) (by kernel_rfl) (fun _ _ _ _ _ => by kernel_rfl) hT2 ?_
  refine wpAnyH_takeG (i := 21) (d := 63) (g := (some (17, true))) (op := (Op.binOp BinOp.lss 3 (Operand.tmp 62) (Operand.const (Value.int IntKind.i64 32768)) 3)) (v := .bool true) (by kernel_rfl) (by kernel_rfl) (by kernel_rfl) (by kernel_rfl) (fun _ _ _ h => h) (by kernel_rfl) (fun ty pos af w4 h1 => lss_run ty pos af (by kernel_rfl) (by kernel_rfl) (decide_eq_true G8.out) w4) hT2 ?_
  refine wpAnyH_takeG (i := 22) (d := 64) (g := none) (op := (Op.pick (Operand.tmp 59) (Operand.tmp 63) (Operand.const (Value.bool false)))) (v := .bool true) (by kernel_rfl) (by kernel_rfl) (by kernel_rfl) (by kernel_rfl) (fun _ _ _ h => h) rfl (fun _ _ _ _ _ => by kernel_rfl) hT2 ?_
  refine wpAnyH_takeG (i := 23) (d := 65) (g := none) (op := (Op.move (Operand.tmp 64))) (v := .bool true) (by kernel_rfl) (by kernel_rfl) (by kernel_rfl) (by kernel_rfl) (fun _ _ _ h => h) rfl (fun _ _ _ _ _ => by kernel_rfl) hT2 ?_
  refine wpAnyH_takeG (i := 24) (d := 66) (g := (some (23, true))) (op := (Op.fieldAddr 31 (Operand.tmp 1) 9)) (v := .pointer (some ⟨w.heap.size, 9, none⟩)) (by kernel_rfl) (by kernel_rfl) (by kernel_rfl) (by kernel_rfl) (fun _ _ _ h => h) (by kernel_rfl) (fun _ _ _ _ _ => by kernel_rfl) hT2 ?_
  refine wpAnyH_ldG (i := 25) (d := 67) (g := (some (23, true))) (t := 24) (x := (Operand.tmp 66)) (p := ⟨w.heap.size, 9, none⟩) (u := .slice M.p9 M.n9 M.c9) (by kernel_rfl) (by kernel_rfl) (by kernel_rfl) (by kernel_rfl) (fun _ _ _ h => h) (by kernel_rfl) (by kernel_rfl) (fun w4 h1 => load24q w4 _ _ ((bcell (bblk h1 HMY.out) 9).trans rfl)) hT2 ?_
  refine wpAnyH_takeG (i := 26) (d := 68) (g := (some (23, true))) (op := (Op.call { callee := (Callee.builtin Builtin.len), args := #[(Operand.tmp 67)], argTypes := #[24] })) (v := .int .i64 (M.n9 : Int)) (by kernel_rfl) (by kernel_rfl) (by kernel_rfl) (by kernel_rfl) (fun _ _ _ h => h) (by kernel_rfl) (fun _ _ _ _ _ => by kernel_rfl) hT2 ?_
  refine wpAnyH_takeG (i := 27) (d := 69) (g := (some (23, true))) (op := (Op.binOp BinOp.lss 3 (Operand.tmp 68) (Operand.const (Value.int IntKind.i64 256)) 3)) (v := .bool true) (by kernel_rfl) (by kernel_rfl) (by kernel_rfl) (by kernel_rfl) (fun _ _ _ h => h) (by kernel_rfl) (fun ty pos af w4 h1 => lss_run ty pos af (by kernel_rfl) (by kernel_rfl) (decide_eq_true G9.out) w4) hT2 ?_
  refine wpAnyH_takeG (i := 28) (d := 70) (g := none) (op := (Op.pick (Operand.tmp 65) (Operand.tmp 69) (Operand.const (Value.bool false)))) (v := .bool true) (by kernel_rfl) (by kernel_rfl) (by kernel_rfl) (by kernel_rfl) (fun _ _ _ h => h) rfl (fun _ _ _ _ _ => by kernel_rfl) hT2 ?_
  refine wpAnyH_takeG (i := 29) (d := 2) (g := none) (op := (Op.assign (Operand.tmp 42))) (v := .string T) (by kernel_rfl) (by kernel_rfl) (by kernel_rfl) (by kernel_rfl) (fun _ _ _ h => h) rfl (fun _ _ _ _ _ => by kernel_rfl) hT2 ?_
  refine wpAnyH_takeG (i := 30) (d := 3) (g := none) (op := (Op.assign (Operand.tmp 70))) (v := .bool true) (by kernel_rfl) (by kernel_rfl) (by kernel_rfl) (by kernel_rfl) (fun _ _ _ h => h) rfl (fun _ _ _ _ _ => by kernel_rfl) hT2 ?_
  refine wpAnyH_done (by kernel_rfl) ?_ 0
  simp only [Act.put, List.setIfInBounds_toArray, List.set_cons_zero, List.set_cons_succ]
  have HBX := Lib.hid (HBY.out.trans (hT2.mono HBY.out.size))
  clear hS0 hT1 hT2
  go_wp2_with fail
  go_ret2
  exact ⟨by rw [hT]; rfl, HBX.out⟩
end Go.Proofs.YtgnmgkpfgmpdfaaGreatDoor
end

/- spec.extShares, extKeys. -/
import Derived.Test.YtgnmgkpfgmpdfaaGreatDoorSLst
import Derived.Test.YtgnmgkpfgmpdfaaGreatDoorSLate
import Derived.Deep.DeepCutAuto
set_option linter.unusedVariables false
set_option linter.unusedSimpArgs false
section
namespace Go.Proofs.YtgnmgkpfgmpdfaaGreatDoor
open Go.RowKit

/-- Two texts joined, in a region. -/
theorem cat_run {a : Act} {x y : Operand} {s t : ByteArray} {d : Nat} {g : Option (Nat × Bool)} (ty : TypeId) (pos : String) (af : Array Edge) (hx : a.eval x = .string s) (hy : a.eval y = .string t) (h : s.size + t.size ≤ 9223372036854775807) (w : World) :
    (execOp a.eval ⟨some d, .binOp .add 9 x y 9, ty, pos, af, g⟩).run Tryz.prog w = .ok (.value (.string (s ++ t))) w := by
  unfold execOp
  simp only [hx, hy]
  simp [go_sem, h]
theorem idx_run {a : Act} {t : TypeId} {x y : Operand} {v i u : Value} {d : Nat} {g : Option (Nat × Bool)} (ty : TypeId) (pos : String) (af : Array Edge) (hx : a.eval x = v) (hy : a.eval y = i) (w : World) (h : (Instr.indexAt t v i).run Tryz.prog w = .ok u w) :
    (execOp a.eval ⟨some d, .indexAddr t x y, ty, pos, af, g⟩).run Tryz.prog w = .ok (.value u) w := by
  unfold execOp
  simp only [hx, hy, Sem.run_bind, h, Result.andThen_ok, Sem.run_pure]
theorem idxAt2_65 {b o n k : Nat} (c : Nat) (hk : k < n) (w : World) : (Instr.indexAt 65 (.slice (some ⟨b, o, none⟩) n c) (.int .i64 (k : Int))).run Tryz.prog w = .ok (.pointer (some ⟨b, o + k * 2, none⟩)) w := by
  have hk' : (k : Int) < n := by omega
  simp [Instr.indexAt, go_sem, hk, hk', addr_add]
theorem idxAt2_66 {b o n k : Nat} (c : Nat) (hk : k < n) (w : World) : (Instr.indexAt 66 (.slice (some ⟨b, o, none⟩) n c) (.int .i64 (k : Int))).run Tryz.prog w = .ok (.pointer (some ⟨b, o + k * 2, none⟩)) w := by
  have hk' : (k : Int) < n := by omega
  simp [Instr.indexAt, go_sem, hk, hk', addr_add]
theorem idxAt2_67 {b o n k : Nat} (c : Nat) (hk : k < n) (w : World) : (Instr.indexAt 67 (.slice (some ⟨b, o, none⟩) n c) (.int .i64 (k : Int))).run Tryz.prog w = .ok (.pointer (some ⟨b, o + k * 2, none⟩)) w := by
  have hk' : (k : Int) < n := by omega
  simp [Instr.indexAt, go_sem, hk, hk', addr_add]
theorem load28' (W : World) (p : Addr) (u : Value) (h : W.cell? p = some u) : (Instr.loadAt 28 (.pointer (some p))).run Tryz.prog W = .ok u W := by
  simp [go_sem, Instr.loadAt, Instr.sureAddr, loadVar, h]
theorem load22' (W : World) (p : Addr) (u : Value) (h : W.cell? p = some u) : (Instr.loadAt 22 (.pointer (some p))).run Tryz.prog W = .ok u W := by
  simp [go_sem, Instr.loadAt, Instr.sureAddr, loadVar, h]
set_option maxHeartbeats 2000000 in
set_option maxRecDepth 100000 in
theorem extshares_any (p : Option Addr) (n cap : Nat) (x : Nat → Int) (z : Nat → ByteArray) (w : World) (ho : n ≤ MX) (hs : Sl2 w p n (fun j => .int .u16 (x j)) (fun j => .string (z j))) (hz : ∀ j, j < n → (z j).size ≤ RB) :
    Calls Tryz.prog 90 #[.slice p n cap] w (Said2 (fun s _ => s.size ≤ 65540 * n) w) := by
  have HM := Lib.hid hs
  have HT := Lib.hid hz
  have gn : (n : Int) ≤ 2147483647 := by have h : n ≤ 2147483647 := ho; omega
  clear hs ho hz
  go_enter Tryz.func90, Tryz.ntmps90
  go_wp2_with fail
  go_loopw [4, 5] (fun v i wr => ∃ (k : Nat) (s : ByteArray), k ≤ n ∧ i = .int .i64 (k : Int) ∧ v = .string s ∧ s.size ≤ 65540 * k ∧ Below w.heap.size w wr) (fun _ i _ => n - (intOf i).toNat)
  case atStart => exact ⟨0, _, by omega, rfl, rfl, Nat.le_refl _, Below.refl _ _⟩
  case round =>
    obtain ⟨k, s, hk, rfl, rfl, hz, hB⟩ := hrel
    have hz1 : s.size ≤ 140746078289920 := by omega
    have HZ := Lib.hid hz
    clear hz
    by_cases hlt : k < n
    · obtain ⟨c0, o, rfl, hm1, hm2⟩ := HM.out k hlt
      have c1 := bcellv hB hm1
      have c2 := bcellv hB hm2
      have g1 : (k : Int) < n := by omega
      have hzk : (z k).size ≤ 140737488351232 := HT.out k hlt
      have HB := Lib.hid hB
      clear hB hm1 hm2
      go_wp2_with fail
      refine (recLong_some 2 (.inr rfl) (z k) wr (by omega)).mono ?_
      rintro e w2 ⟨r, rfl, hr, rfl⟩
      rename World => wr
      dsimp only
      have HR := Lib.hid hr
      clear hr
      cases r
      · have hzk' : (z k).size < 65536 := HR.out (by trivial)
        go_upto_region 7 with fail
        have hS0 : Below wr.heap.size wr wr.drew := (Below.refl _ _).drew
        refine wp_region_held (S := fun w1 => Below wr.heap.size wr w1) (by kernel_rfl) ?_
        change wpAnyH _ _ _ _ _ 17 _ _ wr.drew
        refine wpAnyH_takeG (i := 0) (d := 18) (g := none) (op := (Op.move (Operand.tmp 4))) (v := .string s) (by kernel_rfl) (by kernel_rfl) (by kernel_rfl) (by kernel_rfl) (fun _ _ _ h => h) rfl (fun _ _ _ _ _ => by kernel_rfl) hS0 ?_
        refine wpAnyH_takeG (i := 1) (d := 19) (g := none) (op := (Op.move (Operand.tmp 0))) (v := .slice (some ⟨c0, o, none⟩) n cap) (by kernel_rfl) (by kernel_rfl) (by kernel_rfl) (by kernel_rfl) (fun _ _ _ h => h) rfl (fun _ _ _ _ _ => by kernel_rfl) hS0 ?_
        refine wpAnyH_takeG (i := 2) (d := 20) (g := none) (op := (Op.move (Operand.tmp 5))) (v := .int .i64 (k : Int)) (by kernel_rfl) (by kernel_rfl) (by kernel_rfl) (by kernel_rfl) (fun _ _ _ h => h) rfl (fun _ _ _ _ _ => by kernel_rfl) hS0 ?_
        refine wpAnyH_takeG (i := 3) (d := 21) (g := none) (op := (Op.indexAddr 65 (Operand.tmp 19) (Operand.tmp 20))) (v := .pointer (some ⟨c0, o + k * 2, none⟩)) (by kernel_rfl) (by kernel_rfl) (by kernel_rfl) (by kernel_rfl) (fun _ _ _ h => h) rfl (fun ty pos af w1 _ => idx_run _ _ _ (by kernel_rfl) (by kernel_rfl) w1 (idxAt2_65 cap hlt w1)) hS0 ?_
        refine wpAnyH_takeG (i := 4) (d := 22) (g := none) (op := (Op.fieldAddr 115 (Operand.tmp 21) 0)) (v := .pointer (some ⟨c0, o + k * 2, none⟩)) (by kernel_rfl) (by kernel_rfl) (by kernel_rfl) (by kernel_rfl) (fun _ _ _ h => h) rfl (fun _ _ _ _ _ => by kernel_rfl) hS0 ?_
        refine wpAnyH_ldG (i := 5) (d := 23) (g := none) (t := 28) (x := (Operand.tmp 22)) (p := ⟨c0, o + k * 2, none⟩) (u := .int .u16 (x k)) (by kernel_rfl) (by kernel_rfl) (by kernel_rfl) (by kernel_rfl) (fun _ _ _ h => h) rfl (by kernel_rfl) (fun w1 h1 => load28' w1 _ _ (bcellv h1 c1)) hS0 ?_
        refine wpAnyH_takeG (i := 6) (d := 24) (g := none) (op := (Op.convert 28 108 (Operand.tmp 23))) (v := .int .u64 (IntKind.u64.wrap (x k))) (by kernel_rfl) (by kernel_rfl) (by kernel_rfl) (by kernel_rfl) (fun _ _ _ h => h) rfl (fun _ _ _ _ _ => by kernel_rfl) hS0 ?_
        refine wpAnyH_takeG (i := 8) (d := 26) (g := none) (op := (Op.move (Operand.tmp 0))) (v := .slice (some ⟨c0, o, none⟩) n cap) (by kernel_rfl) (by kernel_rfl) (by kernel_rfl) (by kernel_rfl) (fun _ _ _ h => h) rfl (fun _ _ _ _ _ => by kernel_rfl) hS0 ?_
        refine wpAnyH_takeG (i := 9) (d := 27) (g := none) (op := (Op.move (Operand.tmp 5))) (v := .int .i64 (k : Int)) (by kernel_rfl) (by kernel_rfl) (by kernel_rfl) (by kernel_rfl) (fun _ _ _ h => h) rfl (fun _ _ _ _ _ => by kernel_rfl) hS0 ?_
        refine wpAnyH_takeG (i := 10) (d := 28) (g := none) (op := (Op.indexAddr 65 (Operand.tmp 26) (Operand.tmp 27))) (v := .pointer (some ⟨c0, o + k * 2, none⟩)) (by kernel_rfl) (by kernel_rfl) (by kernel_rfl) (by kernel_rfl) (fun _ _ _ h => h) rfl (fun ty pos af w1 _ => idx_run _ _ _ (by kernel_rfl) (by kernel_rfl) w1 (idxAt2_65 cap hlt w1)) hS0 ?_
        refine wpAnyH_takeG (i := 11) (d := 29) (g := none) (op := (Op.fieldAddr 115 (Operand.tmp 28) 1)) (v := .pointer (some ⟨c0, o + k * 2 + 1, none⟩)) (by kernel_rfl) (by kernel_rfl) (by kernel_rfl) (by kernel_rfl) (fun _ _ _ h => h) rfl (fun _ _ _ _ _ => by kernel_rfl) hS0 ?_
        refine wpAnyH_ldG (i := 12) (d := 30) (g := none) (t := 9) (x := (Operand.tmp 29)) (p := ⟨c0, o + k * 2 + 1, none⟩) (u := .string (z k)) (by kernel_rfl) (by kernel_rfl) (by kernel_rfl) (by kernel_rfl) (fun _ _ _ h => h) rfl (by kernel_rfl) (fun w1 h1 => load9 w1 _ _ (bcellv h1 c2)) hS0 ?_
        refine wpAnyH_call (i := 7) (f := 65) (xs := #[(Operand.tmp 24), (Operand.const (Value.int IntKind.i64 2))]) (ats := #[108, 3]) (d := 25) (vs := #[.int .u64 (IntKind.u64.wrap (x k)), .int .i64 2]) (by kernel_rfl) (by kernel_rfl) (by kernel_rfl) (by kernel_rfl) ((recNum_some (IntKind.u64.wrap (x k)) 2 wr.drew (by omega) (by omega)).mono ?_)
        rintro e w3 ⟨N1, rfl, hn1, hb3⟩
        have hS3 : Below wr.heap.size wr w3 := hS0.trans (hb3.mono hS0.size)
        refine ⟨_, rfl, hS3, ?_⟩
        clear hb3
        refine wpAnyH_call (i := 13) (f := 50) (xs := #[(Operand.tmp 30), (Operand.const (Value.int IntKind.i64 2))]) (ats := #[9, 3]) (d := 31) (vs := #[.string (z k), .int .i64 2]) (by kernel_rfl) (by kernel_rfl) (by kernel_rfl) (by kernel_rfl) ((recVec_some (z k) 2 w3 (by omega) (by omega) (by omega)).mono ?_)
        rintro e w4 ⟨N2, rfl, hn2, hb4⟩
        have hS4 : Below wr.heap.size wr w4 := hS3.trans (hb4.mono hS3.size)
        refine ⟨_, rfl, hS4, ?_⟩
        clear hb4 hS3
        refine wpAnyH_takeG (i := 14) (d := 32) (g := none) (op := (Op.binOp BinOp.add 9 (Operand.tmp 25) (Operand.tmp 31) 9)) (v := .string (N1 ++ N2)) (by kernel_rfl) (by kernel_rfl) (by kernel_rfl) (by kernel_rfl) (fun _ _ _ h => h) rfl (fun ty pos af w1 _ => cat_run _ _ _ (by kernel_rfl) (by kernel_rfl) (by omega) w1) hS4 ?_
        refine wpAnyH_takeG (i := 15) (d := 33) (g := none) (op := (Op.binOp BinOp.add 9 (Operand.tmp 18) (Operand.tmp 32) 9)) (v := .string (s ++ (N1 ++ N2))) (by kernel_rfl) (by kernel_rfl) (by kernel_rfl) (by kernel_rfl) (fun _ _ _ h => h) rfl (fun ty pos af w1 _ => cat_run _ _ _ (by kernel_rfl) (by kernel_rfl) (by rw [ByteArray.size_append]; omega) w1) hS4 ?_
        refine wpAnyH_takeG (i := 16) (d := 4) (g := none) (op := (Op.assign (Operand.tmp 33))) (v := .string (s ++ (N1 ++ N2))) (by kernel_rfl) (by kernel_rfl) (by kernel_rfl) (by kernel_rfl) (fun _ _ _ h => h) rfl (fun _ _ _ _ _ => by kernel_rfl) hS4 ?_
        refine wpAnyH_done (by kernel_rfl) ?_ 0
        simp only [Act.put, List.setIfInBounds_toArray, List.set_cons_zero, List.set_cons_succ]
        have HB4 := Lib.hid (HB.out.trans (hS4.mono HB.out.size))
        have HZ4 := Lib.hid (show (s ++ (N1 ++ N2)).size ≤ 65540 * (k + 1) by rw [ByteArray.size_append, ByteArray.size_append]; have := HZ.out; omega)
        clear hS0 hS4
        go_wp2_with fail
        go_roundw
        case rel => exact ⟨k + 1, s ++ (N1 ++ N2), by omega, by go_num, rfl, HZ4.out, HB4.out⟩
        case measure => simp [intOf]; omega
      · go_wp2_with fail
        go_ret2
        exact Said2.mk _ _ (Nat.zero_le _) HB.out
    · obtain rfl : k = n := by omega
      have HB := Lib.hid hB
      clear hB
      go_wp2_with fail
      go_ret2
      exact Said2.mk s _ HZ.out HB.out
end Go.Proofs.YtgnmgkpfgmpdfaaGreatDoor
end

/- spec.extKeys. -/
section
namespace Go.Proofs.YtgnmgkpfgmpdfaaGreatDoor
open Go.RowKit

theorem load66' (W : World) (p : Addr) (u : Value) (h : W.cell? p = some u) : (Instr.loadAt 66 (.pointer (some p))).run Tryz.prog W = .ok u W := by
  simp [go_sem, Instr.loadAt, Instr.sureAddr, loadVar, h]
set_option maxHeartbeats 4000000 in
set_option maxRecDepth 100000 in
theorem extkeys_any (d : ED) (w : World) (hx : Ext w d) (hf : Fit d) : Calls Tryz.prog 89 #[.agg d.es] w (Said2 (fun s _ => s.size ≤ 1152921504606846976) w) := by
  have hB1 : Below w.heap.size w (w.alloc (Obj.cells d.es 69)) := (Below.refl _ _).alloc (Nat.le_refl _) _
  have HX := Lib.hid (hx.below hB1)
  have gn : (d.n11 : Int) ≤ 2147483647 := by have h : d.n11 ≤ 2147483647 := hf.n11; omega
  have gm : d.n2 ≤ MX := hf.n2
  have gm' : d.n2 ≤ 2147483647 := gm
  have GM := Lib.hid gm
  clear hx hf gm
  go_enter Tryz.func89, Tryz.ntmps89
  go_upto_region 1 with fail
  change Code.wp _ _ _ _ (w.alloc (Obj.cells d.es 69))
  have hM1 := heap_alloc_new w (Obj.cells d.es 69)
  generalize w.alloc (Obj.cells d.es 69) = w1 at hB1 hM1 HX ⊢
  have HB1 := Lib.hid hB1
  have k2 := (bcell hM1 2).trans (ED.g2 d)
  have k6 := (bcell hM1 6).trans (ED.g6 d)
  have k11' := (bcell hM1 11).trans (ED.g11 d)
  clear hB1 hM1
  go_cut [17] (fun c wc => (∃ b, c = .bool b) ∧ wc = w1)
  case first =>
    by_cases h1 : (d.n11 : Int) = 0 <;> by_cases h2 : (d.n2 : Int) = 0
    all_goals
      go_wp2_with fail
      go_meet
      case rel => exact ⟨⟨_, rfl⟩, rfl⟩
  obtain ⟨⟨b, rfl⟩, hw⟩ := hcut
  subst hw
  rename World => w1
  cases b
  rotate_left
  · go_upto_region 2 with fail
    have hS0 : Below w1.heap.size w1 w1.drew := (Below.refl _ _).drew
    refine wp_region_held (S := fun w2 => Below w1.heap.size w1 w2) (by kernel_rfl) ?_
    change wpAnyH _ _ _ _ _ 9 _ _ w1.drew
    refine wpAnyH_takeG (i := 0) (d := 18) (g := none) (op := (Op.fieldAddr 69 (Operand.tmp 1) 6)) (v := .pointer (some ⟨w.heap.size, 6, none⟩)) (by kernel_rfl) (by kernel_rfl) (by kernel_rfl) (by kernel_rfl) (fun _ _ _ h => h) rfl (fun _ _ _ _ _ => by kernel_rfl) hS0 ?_
    refine wpAnyH_ldG (i := 1) (d := 19) (g := none) (t := 22) (x := (Operand.tmp 18)) (p := ⟨w.heap.size, 6, none⟩) (u := .int .u32 d.x6) (by kernel_rfl) (by kernel_rfl) (by kernel_rfl) (by kernel_rfl) (fun _ _ _ h => h) rfl (by kernel_rfl) (fun w2 h1 => load22' w2 _ _ (bcellv h1 k6)) hS0 ?_
    refine wpAnyH_takeG (i := 2) (d := 20) (g := none) (op := (Op.convert 22 108 (Operand.tmp 19))) (v := .int .u64 (IntKind.u64.wrap d.x6)) (by kernel_rfl) (by kernel_rfl) (by kernel_rfl) (by kernel_rfl) (fun _ _ _ h => h) rfl (fun _ _ _ _ _ => by kernel_rfl) hS0 ?_
    refine wpAnyH_takeG (i := 4) (d := 22) (g := none) (op := (Op.fieldAddr 69 (Operand.tmp 1) 6)) (v := .pointer (some ⟨w.heap.size, 6, none⟩)) (by kernel_rfl) (by kernel_rfl) (by kernel_rfl) (by kernel_rfl) (fun _ _ _ h => h) rfl (fun _ _ _ _ _ => by kernel_rfl) hS0 ?_
    refine wpAnyH_ldG (i := 5) (d := 23) (g := none) (t := 22) (x := (Operand.tmp 22)) (p := ⟨w.heap.size, 6, none⟩) (u := .int .u32 d.x6) (by kernel_rfl) (by kernel_rfl) (by kernel_rfl) (by kernel_rfl) (fun _ _ _ h => h) rfl (by kernel_rfl) (fun w2 h1 => load22' w2 _ _ (bcellv h1 k6)) hS0 ?_
    refine wpAnyH_takeG (i := 6) (d := 24) (g := none) (op := (Op.binOp BinOp.lss 22 (Operand.tmp 23) (Operand.const (Value.int IntKind.u32 65536)) 22)) (v := .bool (decide (d.x6 < 65536))) (by kernel_rfl) (by kernel_rfl) (by kernel_rfl) (by kernel_rfl) (fun _ _ _ h => h) rfl (fun _ _ _ _ _ => by kernel_rfl) hS0 ?_
    refine wpAnyH_call (i := 3) (f := 65) (xs := #[(Operand.tmp 20), (Operand.const (Value.int IntKind.i64 2))]) (ats := #[108, 3]) (d := 21) (vs := #[.int .u64 (IntKind.u64.wrap d.x6), .int .i64 2]) (by kernel_rfl) (by kernel_rfl) (by kernel_rfl) (by kernel_rfl) ((recNum_some (IntKind.u64.wrap d.x6) 2 w1.drew (by omega) (by omega)).mono ?_)
    rintro e w3 ⟨N1, rfl, hn1, hb3⟩
    have hS3 : Below w1.heap.size w1 w3 := hS0.trans (hb3.mono hS0.size)
    refine ⟨_, rfl, hS3, ?_⟩
    clear hb3
    refine wpAnyH_takeG (i := 7) (d := 2) (g := none) (op := (Op.assign (Operand.tmp 21))) (v := .string N1) (by kernel_rfl) (by kernel_rfl) (by kernel_rfl) (by kernel_rfl) (fun _ _ _ h => h) rfl (fun _ _ _ _ _ => by kernel_rfl) hS3 ?_
    refine wpAnyH_takeG (i := 8) (d := 3) (g := none) (op := (Op.assign (Operand.tmp 24))) (v := .bool (decide (d.x6 < 65536))) (by kernel_rfl) (by kernel_rfl) (by kernel_rfl) (by kernel_rfl) (fun _ _ _ h => h) rfl (fun _ _ _ _ _ => by kernel_rfl) hS3 ?_
    refine wpAnyH_done (by kernel_rfl) ?_ 0
    simp only [Act.put, List.setIfInBounds_toArray, List.set_cons_zero, List.set_cons_succ]
    have HB4 := Lib.hid (HB1.out.trans (hS3.mono HB1.out.size))
    clear hS0 hS3
    go_wp2_with fail
    go_ret2
    exact Said2.mk N1 _ (by show N1.size ≤ _; omega) HB4.out
  · go_wp2_with fail
    go_loopw [4, 5] (fun v i wr => ∃ (k : Nat) (s : ByteArray), k ≤ d.n11 ∧ i = .int .i64 (k : Int) ∧ v = .string s ∧ s.size ≤ 65542 * k ∧ Below w1.heap.size w1 wr) (fun _ i _ => d.n11 - (intOf i).toNat)
    case atStart => exact ⟨0, _, by omega, rfl, rfl, Nat.le_refl _, Below.refl _ _⟩
    case round =>
      obtain ⟨k, s, hk, rfl, rfl, hz, hB⟩ := hrel
      have hz1 : s.size ≤ 140750373257216 := by omega
      have HZ := Lib.hid hz
      clear hz
      by_cases hlt : k < d.n11
      · obtain ⟨c0, o, e11, hm1, hm2⟩ := HX.out.r11 k hlt
        have c1 := bcellv hB hm1
        have c2 := bcellv hB hm2
        have k11 : wr.cell? ⟨w.heap.size, 11, none⟩ = some (.slice (some ⟨c0, o, none⟩) d.n11 d.c11) := by rw [← e11]; exact bcellv hB k11'
        have g1 : (k : Int) < d.n11 := by omega
        have hzk : (d.a11 k).size ≤ 140737488351232 := HX.out.z11 k hlt
        have HB := Lib.hid hB
        have K11 := Lib.hid k11'
        clear hB hm1 hm2 k11'
        go_wp2_with fail
        refine (recLong_some 2 (.inr rfl) (d.a11 k) wr (by omega)).mono ?_
        rintro e w2 ⟨r, rfl, hr, rfl⟩
        rename World => wr
        dsimp only
        have HR := Lib.hid hr
        clear hr
        cases r
        · have hzk' : (d.a11 k).size < 65536 := HR.out (by trivial)
          go_upto_region 9 with fail
          have hS0 : Below wr.heap.size wr wr.drew := (Below.refl _ _).drew
          refine wp_region_held (S := fun w2 => Below wr.heap.size wr w2) (by kernel_rfl) ?_
          change wpAnyH _ _ _ _ _ 19 _ _ wr.drew
          refine wpAnyH_takeG (i := 0) (d := 39) (g := none) (op := (Op.move (Operand.tmp 4))) (v := .string s) (by kernel_rfl) (by kernel_rfl) (by kernel_rfl) (by kernel_rfl) (fun _ _ _ h => h) rfl (fun _ _ _ _ _ => by kernel_rfl) hS0 ?_
          refine wpAnyH_takeG (i := 1) (d := 40) (g := none) (op := (Op.fieldAddr 69 (Operand.tmp 1) 11)) (v := .pointer (some ⟨w.heap.size, 11, none⟩)) (by kernel_rfl) (by kernel_rfl) (by kernel_rfl) (by kernel_rfl) (fun _ _ _ h => h) rfl (fun _ _ _ _ _ => by kernel_rfl) hS0 ?_
          refine wpAnyH_ldG (i := 2) (d := 41) (g := none) (t := 66) (x := (Operand.tmp 40)) (p := ⟨w.heap.size, 11, none⟩) (u := .slice (some ⟨c0, o, none⟩) d.n11 d.c11) (by kernel_rfl) (by kernel_rfl) (by kernel_rfl) (by kernel_rfl) (fun _ _ _ h => h) rfl (by kernel_rfl) (fun w2 h1 => load66' w2 _ _ (bcellv h1 k11)) hS0 ?_
          refine wpAnyH_takeG (i := 3) (d := 42) (g := none) (op := (Op.move (Operand.tmp 5))) (v := .int .i64 (k : Int)) (by kernel_rfl) (by kernel_rfl) (by kernel_rfl) (by kernel_rfl) (fun _ _ _ h => h) rfl (fun _ _ _ _ _ => by kernel_rfl) hS0 ?_
          refine wpAnyH_takeG (i := 4) (d := 43) (g := none) (op := (Op.indexAddr 66 (Operand.tmp 41) (Operand.tmp 42))) (v := .pointer (some ⟨c0, o + k * 2, none⟩)) (by kernel_rfl) (by kernel_rfl) (by kernel_rfl) (by kernel_rfl) (fun _ _ _ h => h) rfl (fun ty pos af w2 _ => idx_run _ _ _ (by kernel_rfl) (by kernel_rfl) w2 (idxAt2_66 d.c11 hlt w2)) hS0 ?_
          refine wpAnyH_takeG (i := 5) (d := 44) (g := none) (op := (Op.fieldAddr 180 (Operand.tmp 43) 0)) (v := .pointer (some ⟨c0, o + k * 2, none⟩)) (by kernel_rfl) (by kernel_rfl) (by kernel_rfl) (by kernel_rfl) (fun _ _ _ h => h) rfl (fun _ _ _ _ _ => by kernel_rfl) hS0 ?_
          refine wpAnyH_ldG (i := 6) (d := 45) (g := none) (t := 9) (x := (Operand.tmp 44)) (p := ⟨c0, o + k * 2, none⟩) (u := .string (d.a11 k)) (by kernel_rfl) (by kernel_rfl) (by kernel_rfl) (by kernel_rfl) (fun _ _ _ h => h) rfl (by kernel_rfl) (fun w2 h1 => load9 w2 _ _ (bcellv h1 c1)) hS0 ?_
          refine wpAnyH_takeG (i := 8) (d := 47) (g := none) (op := (Op.fieldAddr 69 (Operand.tmp 1) 11)) (v := .pointer (some ⟨w.heap.size, 11, none⟩)) (by kernel_rfl) (by kernel_rfl) (by kernel_rfl) (by kernel_rfl) (fun _ _ _ h => h) rfl (fun _ _ _ _ _ => by kernel_rfl) hS0 ?_
          refine wpAnyH_ldG (i := 9) (d := 48) (g := none) (t := 66) (x := (Operand.tmp 47)) (p := ⟨w.heap.size, 11, none⟩) (u := .slice (some ⟨c0, o, none⟩) d.n11 d.c11) (by kernel_rfl) (by kernel_rfl) (by kernel_rfl) (by kernel_rfl) (fun _ _ _ h => h) rfl (by kernel_rfl) (fun w2 h1 => load66' w2 _ _ (bcellv h1 k11)) hS0 ?_
          refine wpAnyH_takeG (i := 10) (d := 49) (g := none) (op := (Op.move (Operand.tmp 5))) (v := .int .i64 (k : Int)) (by kernel_rfl) (by kernel_rfl) (by kernel_rfl) (by kernel_rfl) (fun _ _ _ h => h) rfl (fun _ _ _ _ _ => by kernel_rfl) hS0 ?_
          refine wpAnyH_takeG (i := 11) (d := 50) (g := none) (op := (Op.indexAddr 66 (Operand.tmp 48) (Operand.tmp 49))) (v := .pointer (some ⟨c0, o + k * 2, none⟩)) (by kernel_rfl) (by kernel_rfl) (by kernel_rfl) (by kernel_rfl) (fun _ _ _ h => h) rfl (fun ty pos af w2 _ => idx_run _ _ _ (by kernel_rfl) (by kernel_rfl) w2 (idxAt2_66 d.c11 hlt w2)) hS0 ?_
          refine wpAnyH_takeG (i := 12) (d := 51) (g := none) (op := (Op.fieldAddr 180 (Operand.tmp 50) 1)) (v := .pointer (some ⟨c0, o + k * 2 + 1, none⟩)) (by kernel_rfl) (by kernel_rfl) (by kernel_rfl) (by kernel_rfl) (fun _ _ _ h => h) rfl (fun _ _ _ _ _ => by kernel_rfl) hS0 ?_
          refine wpAnyH_ldG (i := 13) (d := 52) (g := none) (t := 22) (x := (Operand.tmp 51)) (p := ⟨c0, o + k * 2 + 1, none⟩) (u := .int .u32 (d.z11 k)) (by kernel_rfl) (by kernel_rfl) (by kernel_rfl) (by kernel_rfl) (fun _ _ _ h => h) rfl (by kernel_rfl) (fun w2 h1 => load22' w2 _ _ (bcellv h1 c2)) hS0 ?_
          refine wpAnyH_takeG (i := 14) (d := 53) (g := none) (op := (Op.convert 22 108 (Operand.tmp 52))) (v := .int .u64 (IntKind.u64.wrap (d.z11 k))) (by kernel_rfl) (by kernel_rfl) (by kernel_rfl) (by kernel_rfl) (fun _ _ _ h => h) rfl (fun _ _ _ _ _ => by kernel_rfl) hS0 ?_
          refine wpAnyH_call (i := 7) (f := 50) (xs := #[(Operand.tmp 45), (Operand.const (Value.int IntKind.i64 2))]) (ats := #[9, 3]) (d := 46) (vs := #[.string (d.a11 k), .int .i64 2]) (by kernel_rfl) (by kernel_rfl) (by kernel_rfl) (by kernel_rfl) ((recVec_some (d.a11 k) 2 wr.drew (by omega) (by omega) (by omega)).mono ?_)
          rintro e w3 ⟨N1, rfl, hn1, hb3⟩
          have hS3 : Below wr.heap.size wr w3 := hS0.trans (hb3.mono hS0.size)
          refine ⟨_, rfl, hS3, ?_⟩
          clear hb3
          refine wpAnyH_call (i := 15) (f := 65) (xs := #[(Operand.tmp 53), (Operand.const (Value.int IntKind.i64 4))]) (ats := #[108, 3]) (d := 54) (vs := #[.int .u64 (IntKind.u64.wrap (d.z11 k)), .int .i64 4]) (by kernel_rfl) (by kernel_rfl) (by kernel_rfl) (by kernel_rfl) ((recNum_some (IntKind.u64.wrap (d.z11 k)) 4 w3 (by omega) (by omega)).mono ?_)
          rintro e w4 ⟨N2, rfl, hn2, hb4⟩
          have hS4 : Below wr.heap.size wr w4 := hS3.trans (hb4.mono hS3.size)
          refine ⟨_, rfl, hS4, ?_⟩
          clear hb4 hS3
          refine wpAnyH_takeG (i := 16) (d := 55) (g := none) (op := (Op.binOp BinOp.add 9 (Operand.tmp 46) (Operand.tmp 54) 9)) (v := .string (N1 ++ N2)) (by kernel_rfl) (by kernel_rfl) (by kernel_rfl) (by kernel_rfl) (fun _ _ _ h => h) rfl (fun ty pos af w2 _ => cat_run _ _ _ (by kernel_rfl) (by kernel_rfl) (by omega) w2) hS4 ?_
          refine wpAnyH_takeG (i := 17) (d := 56) (g := none) (op := (Op.binOp BinOp.add 9 (Operand.tmp 39) (Operand.tmp 55) 9)) (v := .string (s ++ (N1 ++ N2))) (by kernel_rfl) (by kernel_rfl) (by kernel_rfl) (by kernel_rfl) (fun _ _ _ h => h) rfl (fun ty pos af w2 _ => cat_run _ _ _ (by kernel_rfl) (by kernel_rfl) (by rw [ByteArray.size_append]; omega) w2) hS4 ?_
          refine wpAnyH_takeG (i := 18) (d := 4) (g := none) (op := (Op.assign (Operand.tmp 56))) (v := .string (s ++ (N1 ++ N2))) (by kernel_rfl) (by kernel_rfl) (by kernel_rfl) (by kernel_rfl) (fun _ _ _ h => h) rfl (fun _ _ _ _ _ => by kernel_rfl) hS4 ?_
          refine wpAnyH_done (by kernel_rfl) ?_ 0
          simp only [Act.put, List.setIfInBounds_toArray, List.set_cons_zero, List.set_cons_succ]
          have HB4 := Lib.hid (HB.out.trans (hS4.mono HB.out.size))
          have HZ4 := Lib.hid (show (s ++ (N1 ++ N2)).size ≤ 65542 * (k + 1) by rw [ByteArray.size_append, ByteArray.size_append]; have := HZ.out; omega)
          clear hS0 hS4
          go_wp2_with fail
          go_roundw
          case rel => exact ⟨k + 1, s ++ (N1 ++ N2), by omega, by go_num, rfl, HZ4.out, HB4.out⟩
          case measure => simp [intOf]; omega
        · have HBW := Lib.hid (HB1.out.trans (HB.out.mono HB1.out.size))
          go_wp2_with fail
          go_ret2
          exact Said2.mk _ _ (Nat.zero_le _) HBW.out
      · have k11 := bcellv hB k11'
        have k2' := bcellv hB k2
        have HB := Lib.hid hB
        have HBW := Lib.hid (HB1.out.trans (hB.mono HB1.out.size))
        obtain rfl : k = d.n11 := by omega
        clear hB k11' k2 k6
        go_wp2_with fail
        refine (meslist_any 1 (.inl rfl) d.p2 d.n2 d.c2 d.t2 wr GM.out (HX.out.r2.below HB.out) HX.out.z2).mono ?_
        rintro e w2 ⟨t, b, rfl, ht, hb2⟩
        have ht1 : t.size ≤ 140741783322626 := by have : t.size ≤ 2 + 65538 * d.n2 := ht; omega
        have HBX := Lib.hid (HBW.out.trans (hb2.mono HBW.out.size))
        clear hb2 ht
        dsimp only
        go_wp2_with fail
        refine (recVec_some s 2 w2 (by omega) (by omega) (by omega)).mono ?_
        rintro e w3 ⟨N1, rfl, hn1, hb3⟩
        have hn2 : N1.size ≤ 140750373257218 := by omega
        have HBY := Lib.hid (HBX.out.trans (hb3.mono HBX.out.size))
        clear hb3 hn1
        dsimp only
        cases b
        · go_wp2_with fail
          go_ret2
          exact Said2.mk (N1 ++ t) _ (by show (N1 ++ t).size ≤ _; rw [ByteArray.size_append]; omega) HBY.out
        · go_wp2_with fail
          refine (recLong_some 2 (.inr rfl) s w3 (by omega)).mono ?_
          rintro e w4 ⟨r, rfl, _, rfl⟩
          dsimp only
          go_wp2_with fail
          go_ret2
          exact Said2.mk (N1 ++ t) _ (by show (N1 ++ t).size ≤ _; rw [ByteArray.size_append]; omega) HBY.out
end Go.Proofs.YtgnmgkpfgmpdfaaGreatDoor
end

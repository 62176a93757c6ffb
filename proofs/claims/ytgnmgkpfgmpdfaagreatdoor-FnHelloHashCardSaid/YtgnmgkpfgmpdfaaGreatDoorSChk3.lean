/- laws.among, all, scheme, schemes, between, zeros, listed. -/
import Derived.Test.YtgnmgkpfgmpdfaaGreatDoorSKeys
set_option linter.unusedVariables false
set_option linter.unusedSimpArgs false
section
namespace Go.Proofs.YtgnmgkpfgmpdfaaGreatDoor
open Go.RowKit

/-- Whether a guard says yes. -/
def gOk (g : Option (Nat × Bool)) (y : Nat → Option Bool) : Bool := match g with | none => true | some (j, want) => y j == some want
theorem wpOp_ofG {P : Program} {ops : Array Oper} {Q : Exit → Act → World → Prop} {i d : Nat} {K : Act → World → Prop} {a : Act} {w : World} {g : Option (Nat × Bool)} {op : Op} (ho : (ops[i]?.map fun o => (o.guard, o.dst, o.op)) = some (g, some d, op))
    (hw : gOk g (yielded ops a.tmps) = true) (h : ∀ o : Oper, o.dst = some d → o.op = op → o.wp P a w K Q) : wpOp P ops Q i K a w := by
  cases hq : ops[i]? with
  | none => simp [hq] at ho
  | some o =>
    obtain ⟨dst, op', ty, pos, after, guard⟩ := o
    simp only [hq, Option.map_some, Option.some.injEq, Prod.mk.injEq] at ho
    obtain ⟨rfl, rfl, rfl⟩ := ho
    unfold wpOp
    simp only [hq]
    have hw' : Region.wanted ⟨some d, op', ty, pos, after, guard⟩ (yielded ops a.tmps) = true := by unfold Region.wanted; exact hw
    rw [if_pos hw']
    exact .inl (h _ rfl rfl)
/-- A call behind a guard that says yes, the only one that may come up. -/
theorem wpAnyH_callG {md : Region.Mode} {ops : Array Oper} {Q : Exit → Act → World → Prop} {S : World → Prop} {n i d : Nat} {listed : Array Bool} {a : Act} {w : World} {g : Option (Nat × Bool)} {f : Nat} {xs : Array Operand} {ats : Array TypeId} {vs : Array Value} (hr : Region.ready md ops listed = [i])
    (hf : (Tryz.prog.funcs[f]?).map (fun fn => (fn.name == "runtime.NumGoroutine", fn.body.isSome)) = some (false, true))
    (ho : (ops[i]?.map fun o => (o.guard, o.dst, o.op)) = some (g, some d, .call { callee := .value (.func f), args := xs, argTypes := ats })) (hw : gOk g (yielded ops a.tmps) = true) (hx : xs.map a.eval = vs)
    (h : Calls Tryz.prog f vs w fun e w' => ∃ u, e = .returned u ∧ S w' ∧ wpAnyH Tryz.prog md ops Q S n (listed.setIfInBounds i true) (a.put (some d) u) w') : wpAnyH Tryz.prog md ops Q S (n + 1) listed a w := by
  refine wpAnyH_all hr (by simp) fun k hk => ?_
  obtain rfl := List.mem_singleton.1 hk
  refine wpOp_ofG ho hw fun o h1 h2 => ?_
  unfold Oper.wp execOp
  have e1 : a.eval (.func f) = .func (.func f) #[] #[] := rfl
  simp only [h2, resolve, e1, hx, Sem.run_bind]
  have e2 : (Sem.run Tryz.prog (Deferred.ofValue (Value.func (Fn.func f) #[] #[]) vs) w) = .ok { target := .fn (.func f) #[], args := vs } w := by
    simp [Deferred.ofValue]
  rw [e2, Result.andThen_ok]
  have e3 : Sem.run Tryz.prog (invoke (.fn (.func f) #[]) vs) w = .ok (.enter f vs) w := by
    cases hq : Tryz.prog.funcs[f]? with
    | none => simp [hq] at hf
    | some fn =>
      simp only [hq, Option.map_some, Option.some.injEq, Prod.mk.injEq] at hf
      obtain ⟨b, hb⟩ := Option.isSome_iff_exists.1 hf.2
      have h3 : fn.name ≠ "runtime.NumGoroutine" := by simpa using hf.1
      simp [invoke, callFunc, hq, h3, hb]
  rw [e3]
  simp only [Oper.upon]
  refine Calls.mono h ?_
  rintro e w' ⟨u, rfl, h3⟩
  rw [h1]
  exact h3
/-- Whether a number is among some. -/
def Amid (x : Int) (n : Nat) (u : Nat → Int) (w : World) (e : Ending) (w' : World) : Prop := ∃ b : Bool, e = .returned (.bool b) ∧ (b = false → ∀ j, j < n → u j ≠ x) ∧ w' = w
theorem Amid.yes {x : Int} {n : Nat} {u : Nat → Int} {w : World} : Amid x n u w (.returned (.bool true)) w := ⟨true, rfl, fun h => Bool.noConfusion h, rfl⟩
theorem Amid.no {x : Int} {n : Nat} {u : Nat → Int} {w : World} (h : ∀ j, j < n → u j ≠ x) : Amid x n u w (.returned (.bool false)) w := ⟨false, rfl, fun _ => h, rfl⟩
set_option maxHeartbeats 2000000 in
set_option maxRecDepth 100000 in
theorem among_any (x : Int) (p : Option Addr) (n cap : Nat) (u : Nat → Int) (w : World) (hn : n ≤ RB) (hs : Sl1 w p n (fun j => .int .u16 (u j))) : Calls Tryz.prog 32 #[.int .u16 x, .slice p n cap] w (Amid x n u w) := by
  have HM := Lib.hid hs
  have gn : (n : Int) ≤ 140737488351232 := by have h : n ≤ 140737488351232 := hn; omega
  clear hs hn
  go_enter Tryz.func32, Tryz.ntmps32
  go_wp2_with fail
  go_loopw [9] (fun i wr => ∃ k : Nat, k ≤ n ∧ i = .int .i64 (k : Int) ∧ wr = w ∧ ∀ j, j < k → u j ≠ x) (fun i _ => n - (intOf i).toNat)
  case atStart => exact ⟨0, by omega, rfl, rfl, fun j hj => absurd hj (by omega)⟩
  case round =>
    obtain ⟨k, hk, rfl, rfl, hno⟩ := hrel
    rename World => w
    have HNO := Lib.hid hno
    clear hno
    by_cases hlt : k < n
    · obtain ⟨b, o, rfl, c1⟩ := HM.out k hlt
      have g1 : (k : Int) < n := by omega
      by_cases hx : u k = x
      · go_wp2_with fail
        go_ret
        exact Amid.yes
      · go_wp2_with fail
        go_roundw
        case rel => exact ⟨k + 1, by omega, by go_num, by trivial, fun j hj => by
          by_cases e : j = k
          · subst e; exact hx
          · exact HNO.out j (by omega)⟩
        case measure => simp [intOf]; omega
    · obtain rfl : k = n := by omega
      go_wp2_with fail
      go_ret
      exact Amid.no HNO.out
set_option maxHeartbeats 2000000 in
set_option maxRecDepth 100000 in
theorem all_any (p : Option Addr) (n cap : Nat) (u : Nat → Int) (q : Option Addr) (m c2 : Nat) (v : Nat → Int) (w : World) (hn : n ≤ RB) (hs : Sl1 w p n (fun j => .int .u16 (u j))) (hm : m ≤ RB) (ht : Sl1 w q m (fun j => .int .u16 (v j))) :
    Calls Tryz.prog 66 #[.slice p n cap, .slice q m c2] w (Yes w) := by
  have HM := Lib.hid hs
  have HT := Lib.hid ht
  have HML := Lib.hid hm
  have gn : (n : Int) ≤ 140737488351232 := by have h : n ≤ 140737488351232 := hn; omega
  clear hs hn hm ht
  go_enter Tryz.func66, Tryz.ntmps66
  go_wp2_with fail
  go_loopw [9] (fun i wr => ∃ k : Nat, k ≤ n ∧ i = .int .i64 (k : Int) ∧ wr = w) (fun i _ => n - (intOf i).toNat)
  case atStart => exact ⟨0, by omega, rfl, rfl⟩
  case round =>
    obtain ⟨k, hk, rfl, rfl⟩ := hrel
    rename World => w
    by_cases hlt : k < n
    · obtain ⟨b, o, rfl, c1⟩ := HM.out k hlt
      have g1 : (k : Int) < n := by omega
      go_wp2_with fail
      refine (among_any (u k) q m c2 v w HML.out HT.out).mono ?_
      rintro e w2 ⟨r, rfl, _, rfl⟩
      rename World => w
      dsimp only
      cases r
      · go_wp2_with fail
        go_ret
        exact Yes.mk _
      · go_wp2_with fail
        go_roundw
        case rel => exact ⟨k + 1, by omega, by go_num, by trivial⟩
        case measure => simp [intOf]; omega
    · obtain rfl : k = n := by omega
      go_wp2_with fail
      go_ret
      exact Yes.mk _
/-- Whether all are zero. -/
def Naught (n : Nat) (u : Nat → Int) (w : World) (e : Ending) (w' : World) : Prop := ∃ b : Bool, e = .returned (.bool b) ∧ (b = true → (0 < n ∧ n < 256) ∧ ∀ j, j < n → u j = 0) ∧ w' = w
theorem Naught.no {n : Nat} {u : Nat → Int} {w : World} : Naught n u w (.returned (.bool false)) w := ⟨false, rfl, fun h => Bool.noConfusion h, rfl⟩
theorem Naught.yes {n : Nat} {u : Nat → Int} {w : World} (h : (0 < n ∧ n < 256) ∧ ∀ j, j < n → u j = 0) : Naught n u w (.returned (.bool true)) w := ⟨true, rfl, fun _ => h, rfl⟩
set_option maxHeartbeats 2000000 in
set_option maxRecDepth 100000 in
theorem zeros_any (p : Option Addr) (n cap : Nat) (u : Nat → Int) (w : World) (hn : n ≤ RB) (hs : Sl1 w p n (fun j => .int .u8 (u j))) : Calls Tryz.prog 13 #[.slice p n cap] w (Naught n u w) := by
  have HM := Lib.hid hs
  have gn : (n : Int) ≤ 140737488351232 := by have h : n ≤ 140737488351232 := hn; omega
  clear hs hn
  go_enter Tryz.func13, Tryz.ntmps13
  go_wp2_with fail
  go_loopw [7] (fun i wr => ∃ k : Nat, k ≤ n ∧ i = .int .i64 (k : Int) ∧ wr = w ∧ ∀ j, j < k → u j = 0) (fun i _ => n - (intOf i).toNat)
  case atStart => exact ⟨0, by omega, rfl, rfl, fun j hj => absurd hj (by omega)⟩
  case round =>
    obtain ⟨k, hk, rfl, rfl, hno⟩ := hrel
    rename World => w
    have HNO := Lib.hid hno
    clear hno
    by_cases hlt : k < n
    · obtain ⟨b, o, rfl, c1⟩ := HM.out k hlt
      have g1 : (k : Int) < n := by omega
      by_cases hx : u k = 0
      · go_wp2_with fail
        go_roundw
        case rel => exact ⟨k + 1, by omega, by go_num, by trivial, fun j hj => by
          by_cases e : j = k
          · subst e; exact hx
          · exact HNO.out j (by omega)⟩
        case measure => simp [intOf]; omega
      · go_wp2_with fail
        go_ret
        exact Naught.no
    · obtain rfl : k = n := by omega
      by_cases h0 : (k : Int) > 0
      · by_cases h1 : (k : Int) < 256
        · go_wp2_with fail
          go_ret
          refine ⟨_, rfl, fun _ => ⟨⟨by omega, by omega⟩, HNO.out⟩, rfl⟩
        · go_wp2_with fail
          go_ret
          exact ⟨_, rfl, fun h => Bool.noConfusion h, rfl⟩
      · go_wp2_with fail
        go_ret
        exact ⟨_, rfl, fun h => Bool.noConfusion h, rfl⟩
set_option maxHeartbeats 2000000 in
set_option maxRecDepth 100000 in
theorem between_any (p : Option Addr) (n cap : Nat) (t : Nat → ByteArray) (lo hi : Int) (w : World) (hn : n ≤ RB) (hs : Sl1 w p n (fun j => .string (t j))) : Calls Tryz.prog 15 #[.slice p n cap, .int .i64 lo, .int .i64 hi] w (Yes w) := by
  have HM := Lib.hid hs
  have gn : (n : Int) ≤ 140737488351232 := by have h : n ≤ 140737488351232 := hn; omega
  clear hs hn
  go_enter Tryz.func15, Tryz.ntmps15
  go_wp2_with fail
  go_loopw [7, 12] (fun v i wr => ∃ (k : Nat) (y : Int), k ≤ n ∧ i = .int .i64 (k : Int) ∧ v = .int .i64 y ∧ wr = w) (fun _ i _ => n - (intOf i).toNat)
  case atStart => exact ⟨0, 0, by omega, rfl, rfl, rfl⟩
  case round =>
    obtain ⟨k, y, hk, rfl, rfl, rfl⟩ := hrel
    rename World => w
    by_cases hlt : k < n
    · obtain ⟨b, o, rfl, c1⟩ := HM.out k hlt
      have g1 : (k : Int) < n := by omega
      go_upto_region 6 with fail
      generalize wrap64 (y + wrap64 (((t k).size : Int) + 3)) = Y
      by_cases h1 : ((t k).size : Int) < lo
      · go_wp2_with fail
        go_ret
        exact Yes.mk _
      · by_cases h2 : ((t k).size : Int) > hi
        · go_wp2_with fail
          go_ret
          exact Yes.mk _
        · by_cases h3 : Y > 60000
          · go_wp2_with fail
            go_ret
            exact Yes.mk _
          · go_wp2_with fail
            go_roundw
            case rel => exact ⟨k + 1, Y, by omega, by go_num, rfl, by trivial⟩
            case measure => simp [intOf]; omega
    · obtain rfl : k = n := by omega
      go_wp2_with fail
      go_ret
      exact Yes.mk _
set_option maxHeartbeats 4000000 in
set_option maxRecDepth 100000 in
theorem scheme_any (x y : Int) (w : World) : Tell 19 #[.agg #[.int .u16 x, .int .u16 y]] w True := by
  unfold Tell
  go_enter Tryz.func19, Tryz.ntmps19
  have hB1 : Below w.heap.size w (w.alloc (Obj.cells #[.int .u16 x, .int .u16 y] 51)) := (Below.refl _ _).alloc (Nat.le_refl _) _
  have hM1 := heap_alloc_new w (Obj.cells #[.int .u16 x, .int .u16 y] 51)
  go_upto_region 1 with fail
  change Code.wp _ _ _ _ (w.alloc (Obj.cells #[.int .u16 x, .int .u16 y] 51))
  generalize w.alloc (Obj.cells #[.int .u16 x, .int .u16 y] 51) = w1 at hB1 hM1 ⊢
  have HB1 := Lib.hid hB1
  have k0 : w1.cell? ⟨w.heap.size, 0, none⟩ = some (.int .u16 x) := (bcell hM1 0).trans rfl
  have k1 : w1.cell? ⟨w.heap.size, 1, none⟩ = some (.int .u16 y) := (bcell hM1 1).trans rfl
  clear hB1 hM1
  go_cut [0, 3] (fun _ c wc => (∃ b, c = .bool b) ∧ wc = w1)
  case first =>
    by_cases a1 : x ≥ 2
    · by_cases a2 : x ≤ 6
      · by_cases a3 : y = 1
        · go_wp2_with fail
          go_meet
          case rel => exact ⟨⟨_, rfl⟩, by trivial⟩
        · by_cases a4 : y = 3
          · go_wp2_with fail
            go_meet
            case rel => exact ⟨⟨_, rfl⟩, by trivial⟩
          · go_wp2_with fail
            go_meet
            case rel => exact ⟨⟨_, rfl⟩, by trivial⟩
      · go_wp2_with fail
        go_meet
        case rel => exact ⟨⟨_, rfl⟩, by trivial⟩
    · go_wp2_with fail
      go_meet
      case rel => exact ⟨⟨_, rfl⟩, by trivial⟩
  obtain ⟨⟨b, rfl⟩, hw⟩ := hcut
  subst hw
  rename World => w1
  cases b
  rotate_left
  · go_wp2_with fail
    go_ret
    exact Told.some _ trivial HB1.out
  go_upto_region 3 with fail
  go_cut [0, 22] (fun _ c wc => (∃ b, c = .bool b) ∧ wc = w1)
  case first =>
    by_cases a1 : x = 8 <;> by_cases a2 : y = 7
    all_goals
      go_wp2_with fail
      go_meet
      case rel => exact ⟨⟨_, rfl⟩, by trivial⟩
  obtain ⟨⟨b, rfl⟩, hw⟩ := hcut
  subst hw
  rename World => w1
  cases b
  rotate_left
  · go_wp2_with fail
    go_ret
    exact Told.some _ trivial HB1.out
  go_upto_region 5 with fail
  have hS0 : Below w1.heap.size w1 w1.drew := (Below.refl _ _).drew
  refine wp_region_held (S := fun w2 => Below w1.heap.size w1 w2) (by kernel_rfl) ?_
  change wpAnyH _ _ _ _ _ 12 _ _ w1.drew
  refine wpAnyH_takeG (i := 0) (d := 31) (g := none) (op := (Op.fieldAddr 51 (Operand.tmp 1) 1)) (v := .pointer (some ⟨w.heap.size, 1, none⟩)) (by kernel_rfl) (by kernel_rfl) (by kernel_rfl) (by kernel_rfl) (fun _ _ _ h => h) rfl (fun _ _ _ _ _ => by kernel_rfl) hS0 ?_
  refine wpAnyH_ldG (i := 1) (d := 32) (g := none) (t := 28) (x := (Operand.tmp 31)) (p := ⟨w.heap.size, 1, none⟩) (u := .int .u16 y) (by kernel_rfl) (by kernel_rfl) (by kernel_rfl) (by kernel_rfl) (fun _ _ _ h => h) rfl (by kernel_rfl) (fun w2 h1 => load28' w2 _ _ (bcellv h1 k1)) hS0 ?_
  refine wpAnyH_call (i := 2) (f := 20) (xs := #[(Operand.tmp 32)]) (ats := #[28]) (d := 33) (vs := #[.int .u16 y]) (by kernel_rfl) (by kernel_rfl) (by kernel_rfl) (by kernel_rfl) ((pss_any y w1.drew).mono ?_)
  rintro e w3 ⟨b, rfl, rfl⟩
  refine ⟨_, rfl, hS0, ?_⟩
  refine wpAnyH_takeG (i := 3) (d := 34) (g := none) (op := (Op.move (Operand.tmp 33))) (v := .bool b) (by kernel_rfl) (by kernel_rfl) (by kernel_rfl) (by kernel_rfl) (fun _ _ _ h => h) rfl (fun _ _ _ _ _ => by kernel_rfl) hS0 ?_
  cases b
  rotate_left
  · refine wpAnyH_takeG (i := 4) (d := 35) (g := (some (3, true))) (op := (Op.fieldAddr 51 (Operand.tmp 1) 0)) (v := .pointer (some ⟨w.heap.size, 0, none⟩)) (by kernel_rfl) (by kernel_rfl) (by kernel_rfl) (by kernel_rfl) (fun _ _ _ h => h) (by kernel_rfl) (fun _ _ _ _ _ => by kernel_rfl) hS0 ?_
    refine wpAnyH_ldG (i := 5) (d := 36) (g := (some (3, true))) (t := 28) (x := (Operand.tmp 35)) (p := ⟨w.heap.size, 0, none⟩) (u := .int .u16 x) (by kernel_rfl) (by kernel_rfl) (by kernel_rfl) (by kernel_rfl) (fun _ _ _ h => h) (by kernel_rfl) (by kernel_rfl) (fun w2 h1 => load28' w2 _ _ (bcellv h1 k0)) hS0 ?_
    refine wpAnyH_takeG (i := 6) (d := 37) (g := (some (3, true))) (op := (Op.fieldAddr 51 (Operand.tmp 1) 1)) (v := .pointer (some ⟨w.heap.size, 1, none⟩)) (by kernel_rfl) (by kernel_rfl) (by kernel_rfl) (by kernel_rfl) (fun _ _ _ h => h) (by kernel_rfl) (fun _ _ _ _ _ => by kernel_rfl) hS0 ?_
    refine wpAnyH_ldG (i := 7) (d := 38) (g := (some (3, true))) (t := 28) (x := (Operand.tmp 37)) (p := ⟨w.heap.size, 1, none⟩) (u := .int .u16 y) (by kernel_rfl) (by kernel_rfl) (by kernel_rfl) (by kernel_rfl) (fun _ _ _ h => h) (by kernel_rfl) (by kernel_rfl) (fun w2 h1 => load28' w2 _ _ (bcellv h1 k1)) hS0 ?_
    refine wpAnyH_callG (i := 8) (g := some (3, true)) (f := 33) (xs := #[(Operand.tmp 38)]) (ats := #[28]) (d := 39) (vs := #[.int .u16 y]) (by kernel_rfl) (by kernel_rfl) (by kernel_rfl) (by kernel_rfl) (by kernel_rfl) ((pairhash_any y w1.drew).mono ?_)
    rintro e w3 ⟨z, rfl, rfl⟩
    refine ⟨_, rfl, hS0, ?_⟩
    refine wpAnyH_takeG (i := 9) (d := 40) (g := (some (3, true))) (op := (Op.binOp BinOp.eql 28 (Operand.tmp 36) (Operand.tmp 39) 28)) (v := .bool (x == z)) (by kernel_rfl) (by kernel_rfl) (by kernel_rfl) (by kernel_rfl) (fun _ _ _ h => h) (by kernel_rfl) (fun _ _ _ _ _ => by kernel_rfl) hS0 ?_
    refine wpAnyH_takeG (i := 10) (d := 41) (g := none) (op := (Op.pick (Operand.tmp 34) (Operand.tmp 40) (Operand.const (Value.bool false)))) (v := .bool (x == z)) (by kernel_rfl) (by kernel_rfl) (by kernel_rfl) (by kernel_rfl) (fun _ _ _ h => h) rfl (fun _ _ _ _ _ => by kernel_rfl) hS0 ?_
    refine wpAnyH_takeG (i := 11) (d := 2) (g := none) (op := (Op.assign (Operand.tmp 41))) (v := .bool (x == z)) (by kernel_rfl) (by kernel_rfl) (by kernel_rfl) (by kernel_rfl) (fun _ _ _ h => h) rfl (fun _ _ _ _ _ => by kernel_rfl) hS0 ?_
    refine wpAnyH_done (by kernel_rfl) ?_ 0
    simp only [Act.put, List.setIfInBounds_toArray, List.set_cons_zero, List.set_cons_succ]
    have HBZ := Lib.hid (HB1.out.trans (hS0.mono HB1.out.size))
    clear hS0
    go_wp2_with fail
    go_ret
    exact Told.some _ trivial HBZ.out
  · refine wpAnyH_pass (i := 4) (d := 35) (g := (some (3, true))) (op := (Op.fieldAddr 51 (Operand.tmp 1) 0)) (by kernel_rfl) (by kernel_rfl) (by kernel_rfl) (by kernel_rfl) (fun _ _ _ h => h) (by kernel_rfl) hS0 ?_
    refine wpAnyH_pass (i := 5) (d := 36) (g := (some (3, true))) (op := (Op.load 28 (Operand.tmp 35))) (by kernel_rfl) (by kernel_rfl) (by kernel_rfl) (by kernel_rfl) (fun _ _ _ h => h) (by kernel_rfl) hS0 ?_
    refine wpAnyH_pass (i := 6) (d := 37) (g := (some (3, true))) (op := (Op.fieldAddr 51 (Operand.tmp 1) 1)) (by kernel_rfl) (by kernel_rfl) (by kernel_rfl) (by kernel_rfl) (fun _ _ _ h => h) (by kernel_rfl) hS0 ?_
    refine wpAnyH_pass (i := 7) (d := 38) (g := (some (3, true))) (op := (Op.load 28 (Operand.tmp 37))) (by kernel_rfl) (by kernel_rfl) (by kernel_rfl) (by kernel_rfl) (fun _ _ _ h => h) (by kernel_rfl) hS0 ?_
    refine wpAnyH_pass (i := 8) (d := 39) (g := (some (3, true))) (op := (Op.call { callee := (Callee.value (Operand.func 33)), args := #[(Operand.tmp 38)], argTypes := #[28] })) (by kernel_rfl) (by kernel_rfl) (by kernel_rfl) (by kernel_rfl) (fun _ _ _ h => h) (by kernel_rfl) hS0 ?_
    refine wpAnyH_pass (i := 9) (d := 40) (g := (some (3, true))) (op := (Op.binOp BinOp.eql 28 (Operand.tmp 36) (Operand.tmp 39) 28)) (by kernel_rfl) (by kernel_rfl) (by kernel_rfl) (by kernel_rfl) (fun _ _ _ h => h) (by kernel_rfl) hS0 ?_
    refine wpAnyH_takeG (i := 10) (d := 41) (g := none) (op := (Op.pick (Operand.tmp 34) (Operand.tmp 40) (Operand.const (Value.bool false)))) (v := .bool false) (by kernel_rfl) (by kernel_rfl) (by kernel_rfl) (by kernel_rfl) (fun _ _ _ h => h) rfl (fun _ _ _ _ _ => by kernel_rfl) hS0 ?_
    refine wpAnyH_takeG (i := 11) (d := 2) (g := none) (op := (Op.assign (Operand.tmp 41))) (v := .bool false) (by kernel_rfl) (by kernel_rfl) (by kernel_rfl) (by kernel_rfl) (fun _ _ _ h => h) rfl (fun _ _ _ _ _ => by kernel_rfl) hS0 ?_
    refine wpAnyH_done (by kernel_rfl) ?_ 0
    simp only [Act.put, List.setIfInBounds_toArray, List.set_cons_zero, List.set_cons_succ]
    have HBZ := Lib.hid (HB1.out.trans (hS0.mono HB1.out.size))
    clear hS0
    go_wp2_with fail
    go_ret
    exact Told.some _ trivial HBZ.out
end Go.Proofs.YtgnmgkpfgmpdfaaGreatDoor
end

/- laws.listed, schemes, shares, filters. -/
section
namespace Go.Proofs.YtgnmgkpfgmpdfaaGreatDoor
open Go.RowKit

/-- A new slice of numbers. -/
theorem new_sl1 (w : World) (cs : Array Value) (n : Nat) (u : Nat → Int) (h : ∀ j, j < n → cs[j]? = some (.int .u16 (u j))) : Sl1 (w.alloc (Obj.cells cs 28)) (some ⟨w.heap.size, 0, none⟩) n fun j => .int .u16 (u j) :=
  fun j hj => ⟨_, _, rfl, by rw [Nat.zero_add]; exact (bcell (heap_alloc_new w _) j).trans (h j hj)⟩
set_option maxHeartbeats 2000000 in
set_option maxRecDepth 100000 in
theorem listed_any (x : Int) (w : World) : Tell 30 #[.int .u16 x] w (x ≠ 41 ∧ x ≠ 42 ∧ x ≠ 45 ∧ x ≠ 47 ∧ x ≠ 48 ∧ x ≠ 49) := by
  unfold Tell
  go_enter Tryz.func30, Tryz.ntmps30
  go_wp2_with fail
  have hB1 : Below w.heap.size w (w.alloc (Obj.cells #[.int .u16 41, .int .u16 42, .int .u16 45, .int .u16 47, .int .u16 48, .int .u16 49] 28)) := (Below.refl _ _).alloc (Nat.le_refl _) _
  have hs := new_sl1 w #[.int .u16 41, .int .u16 42, .int .u16 45, .int .u16 47, .int .u16 48, .int .u16 49] 6 (fun j => ([41, 42, 45, 47, 48, 49] : List Int).getD j 0) (fun j hj => by
      match j, hj with
      | 0, _ => rfl
      | 1, _ => rfl
      | 2, _ => rfl
      | 3, _ => rfl
      | 4, _ => rfl
      | 5, _ => rfl
      | j + 6, hj => omega)
  generalize w.alloc (Obj.cells #[.int .u16 41, .int .u16 42, .int .u16 45, .int .u16 47, .int .u16 48, .int .u16 49] 28) = w1 at hB1 hs ⊢
  have HB := Lib.hid hB1
  clear hB1
  refine (among_any x (some ⟨w.heap.size, 0, none⟩) 6 6 _ w1 (by decide) hs).mono ?_
  rintro e w2 ⟨r, rfl, hr, rfl⟩
  have HR := Lib.hid hr
  clear hr hs
  dsimp only
  cases r
  · go_wp2_with fail
    go_ret
    have h := HR.out (by trivial)
    exact Told.yes ⟨Ne.symm (h 0 (by decide)), Ne.symm (h 1 (by decide)), Ne.symm (h 2 (by decide)), Ne.symm (h 3 (by decide)), Ne.symm (h 4 (by decide)), Ne.symm (h 5 (by decide))⟩ HB.out
  · go_wp2_with fail
    go_ret
    exact Told.no HB.out
set_option maxHeartbeats 2000000 in
set_option maxRecDepth 100000 in
theorem schemes_any (p : Option Addr) (n cap : Nat) (a z : Nat → Int) (w : World) (hn : n ≤ RB) (hs : Sl2 w p n (fun j => .int .u16 (a j)) (fun j => .int .u16 (z j))) : Tell 18 #[.slice p n cap] w True := by
  have HM := Lib.hid hs
  have gn : (n : Int) ≤ 140737488351232 := by have h : n ≤ 140737488351232 := hn; omega
  unfold Tell
  clear hs hn
  go_enter Tryz.func18, Tryz.ntmps18
  go_wp2_with fail
  go_loopw [7] (fun i wr => ∃ k : Nat, k ≤ n ∧ i = .int .i64 (k : Int) ∧ Below w.heap.size w wr) (fun i _ => n - (intOf i).toNat)
  case atStart => exact ⟨0, by omega, rfl, Below.refl _ _⟩
  case round =>
    obtain ⟨k, hk, rfl, hB⟩ := hrel
    by_cases hlt : k < n
    · obtain ⟨b, o, rfl, hm1, hm2⟩ := HM.out k hlt
      have c1 := bcellv hB hm1
      have c2 := bcellv hB hm2
      clear hm1 hm2
      have g1 : (k : Int) < n := by omega
      have HB := Lib.hid hB
      clear hB
      go_wp2_with (refine wpList_store_row (o := ⟨none, .store 51 (.tmp 4) (.tmp 10), _, _, _, _⟩) rfl 51 (.tmp 4) (.tmp 10) rfl wr.heap.size #[.int .u16 (a k), .int .u16 (z k)] (by kernel_rfl) (by kernel_rfl) 51 #[.int .u16 0, .int .u16 0] (heap_alloc_new wr _) (by kernel_rfl) rfl (by kernel_rfl) ?_; change wpList _ _ _ _ _ ((wr.alloc (Obj.cells #[.int .u16 0, .int .u16 0] 51)).setRow wr.heap.size _); rw [setRow_alloc])
      refine (scheme_any (a k) (z k) (wr.alloc (Obj.cells #[.int .u16 (a k), .int .u16 (z k)] 51))).mono ?_
      rintro e w2 ⟨b, rfl, _, hb2⟩
      have hB2 : Below w.heap.size w w2 := (HB.out.alloc HB.out.size _).trans (hb2.mono (by rw [World.size_alloc]; have := HB.out.size; omega))
      have HB2 := Lib.hid hB2
      clear hb2 hB2
      dsimp only
      cases b
      · go_wp2_with fail
        go_ret
        exact Told.no HB2.out
      · go_wp2_with fail
        go_roundw
        case rel => exact ⟨k + 1, by omega, by go_num, HB2.out⟩
        case measure => simp [intOf]; omega
    · obtain rfl : k = n := by omega
      have HB := Lib.hid hB
      clear hB
      by_cases h0 : (k : Int) > 0
      · by_cases h1 : (k : Int) < 1000
        · go_wp2_with fail
          go_ret
          exact Told.some _ trivial HB.out
        · go_wp2_with fail
          go_ret
          exact Told.some _ trivial HB.out
      · go_wp2_with fail
        go_ret
        exact Told.some _ trivial HB.out
set_option maxHeartbeats 4000000 in
set_option maxRecDepth 100000 in
theorem shares_any (p : Option Addr) (n cap : Nat) (a : Nat → Int) (z : Nat → ByteArray) (w : World) (ho : NilOk p n cap) (hs : Sl2 w p n (fun j => .int .u16 (a j)) (fun j => .string (z j))) : Tell 69 #[.slice p n cap] w True := by
  have HM := Lib.hid hs
  have gn : (n : Int) ≤ 140737488351232 := by have h : n ≤ 140737488351232 := ho.2.2; omega
  have gc : (n : Int) ≤ cap := by have h : n ≤ cap := ho.2.1; omega
  unfold Tell
  clear hs ho
  go_enter Tryz.func69, Tryz.ntmps69
  go_wp2_with fail
  go_loopw [9] (fun i wr => ∃ k : Nat, k ≤ n ∧ i = .int .i64 (k : Int) ∧ Below w.heap.size w wr) (fun i _ => n - (intOf i).toNat)
  case atStart => exact ⟨0, by omega, rfl, Below.refl _ _⟩
  case round =>
    obtain ⟨k, hk, rfl, hB⟩ := hrel
    by_cases hlt : k < n
    · obtain ⟨b, o, rfl, hm1, hm2⟩ := HM.out k hlt
      have c1 := bcellv hB hm1
      have c2 := bcellv hB hm2
      clear hm1 hm2
      have g1 : (k : Int) < n := by omega
      have HB := Lib.hid hB
      clear hB
      go_upto_region 4 with (refine wpList_store_row (o := ⟨none, .store 115 (.tmp 4) (.tmp 13), _, _, _, _⟩) rfl 115 (.tmp 4) (.tmp 13) rfl wr.heap.size #[.int .u16 (a k), .string (z k)] (by kernel_rfl) (by kernel_rfl) 115 #[.int .u16 0, .string ⟨#[]⟩] (heap_alloc_new wr _) (by kernel_rfl) rfl (by kernel_rfl) ?_; change wpList _ _ _ _ _ ((wr.alloc (Obj.cells #[.int .u16 0, .string ⟨#[]⟩] 115)).setRow wr.heap.size _); rw [setRow_alloc])
      have hb4 : Below wr.heap.size wr (wr.alloc (Obj.cells #[.int .u16 (a k), .string (z k)] 115)) := (Below.refl _ _).alloc (Nat.le_refl _) _
      have hT4 := heap_alloc_new wr (Obj.cells #[.int .u16 (a k), .string (z k)] 115)
      generalize wr.alloc (Obj.cells #[.int .u16 (a k), .string (z k)] 115) = w4 at hb4 hT4 ⊢
      have t0 : w4.cell? ⟨wr.heap.size, 0, none⟩ = some (.int .u16 (a k)) := (bcell hT4 0).trans rfl
      have t1 : w4.cell? ⟨wr.heap.size, 1, none⟩ = some (.string (z k)) := (bcell hT4 1).trans rfl
      have HB4 := Lib.hid (HB.out.trans (hb4.mono HB.out.size))
      clear hb4 hT4 c1 c2
      generalize wr.heap.size = T at t0 t1 ⊢
      clear HB
      go_wp2_with fail
      have hb5 : Below w4.heap.size w4 (w4.alloc (Obj.cells #[.int .u16 23, .int .u16 24, .int .u16 29] 28)) := (Below.refl _ _).alloc (Nat.le_refl _) _
      have hs5 := new_sl1 w4 #[.int .u16 23, .int .u16 24, .int .u16 29] 3 (fun j => ([23, 24, 29] : List Int).getD j 0) (fun j hj => by
          match j, hj with
          | 0, _ => rfl
          | 1, _ => rfl
          | 2, _ => rfl
          | j + 3, hj => omega)
      generalize w4.alloc (Obj.cells #[.int .u16 23, .int .u16 24, .int .u16 29] 28) = w5 at hb5 hs5 ⊢
      have t0 := bcellv hb5 t0
      have t1 := bcellv hb5 t1
      have HB5 := Lib.hid (HB4.out.trans (hb5.mono HB4.out.size))
      clear hb5
      refine (among_any (a k) (some ⟨w4.heap.size, 0, none⟩) 3 3 _ w5 (by decide) hs5).mono ?_
      rintro e w6 ⟨r, rfl, _, rfl⟩
      clear hs5
      dsimp only
      rename World => w5
      cases r
      · go_wp2_with fail
        go_ret
        exact Told.no HB5.out
      · by_cases h1 : ((z k).size : Int) < 1
        · go_wp2_with fail
          go_ret
          exact Told.no HB5.out
        · by_cases h2 : ((z k).size : Int) > 5000
          · go_wp2_with fail
            go_ret
            exact Told.no HB5.out
          · go_wp2_with fail
            go_loopw [35] (fun i wr => ∃ j : Nat, j ≤ k ∧ i = .int .i64 (j : Int) ∧ Below w5.heap.size w5 wr) (fun i _ => k - (intOf i).toNat)
            case atStart => exact ⟨0, by omega, rfl, Below.refl _ _⟩
            case round =>
              obtain ⟨j, hj, rfl, hBq⟩ := hrel
              by_cases hjk : j < k
              · obtain ⟨b', o', e', hm1, hm2⟩ := HM.out j (by omega)
                simp only [Option.some.injEq, Addr.mk.injEq, and_true] at e'
                obtain ⟨rfl, rfl⟩ := e'
                have c1 := bcellv hBq (bcellv HB5.out hm1)
                have c2 := bcellv hBq (bcellv HB5.out hm2)
                have gj : (j : Int) < k := by omega
                have q0 := bcellv hBq t0
                have hbq2 := (Below.refl wr.heap.size wr).alloc (Nat.le_refl _) (Obj.cells #[.int .u16 (a j), .string (z j)] 115)
                have q0' := bcellv hbq2 q0
                have HBQ := Lib.hid (hBq.alloc hBq.size (Obj.cells #[.int .u16 (a j), .string (z j)] 115))
                clear hm1 hm2 hBq hbq2 q0
                go_upto_if 43 with (refine wpList_store_row (o := ⟨none, .store 115 (.tmp 6) (.tmp 38), _, _, _, _⟩) rfl 115 (.tmp 6) (.tmp 38) rfl wr.heap.size #[.int .u16 (a j), .string (z j)] (by kernel_rfl) (by kernel_rfl) 115 #[.int .u16 0, .string ⟨#[]⟩] (heap_alloc_new wr _) (by kernel_rfl) rfl (by kernel_rfl) ?_; change wpList _ _ _ _ _ ((wr.alloc (Obj.cells #[.int .u16 0, .string ⟨#[]⟩] 115)).setRow wr.heap.size _); rw [setRow_alloc])
                have hbz := HBQ.out
                clear HBQ
                generalize wr.alloc (Obj.cells #[.int .u16 (a j), .string (z j)] 115) = wz at hbz q0' ⊢
                have HBQ := Lib.hid hbz
                clear hbz q0'
                by_cases hq : a j = a k
                · go_wp2_with fail
                  go_ret
                  exact Told.no (HB5.out.trans (HBQ.out.mono HB5.out.size))
                · go_wp2_with fail
                  go_roundw
                  case rel => exact ⟨j + 1, by omega, by go_num, HBQ.out⟩
                  case measure => simp [intOf]; omega
              · obtain rfl : j = k := by omega
                have HBQ := Lib.hid (HB5.out.trans (hBq.mono HB5.out.size))
                clear hBq
                go_wp2_with fail
                go_roundw
                case rel => exact ⟨j + 1, by omega, by go_num, HBQ.out⟩
                case measure => simp [intOf]; omega
    · obtain rfl : k = n := by omega
      have HB := Lib.hid hB
      clear hB
      go_wp2_with fail
      go_ret
      exact Told.some _ trivial HB.out
end Go.Proofs.YtgnmgkpfgmpdfaaGreatDoor
end

/- laws.filters, offered. -/
section
namespace Go.Proofs.YtgnmgkpfgmpdfaaGreatDoor
open Go.RowKit

set_option maxHeartbeats 4000000 in
set_option maxRecDepth 100000 in
theorem filters_any (p : Option Addr) (n cap : Nat) (a z : Nat → ByteArray) (w : World) (ho : NilOk p n cap) (hs : Sl2 w p n (fun j => .string (a j)) (fun j => .string (z j))) : Tell 68 #[.slice p n cap] w True := by
  have HM := Lib.hid hs
  have gn : (n : Int) ≤ 140737488351232 := by have h : n ≤ 140737488351232 := ho.2.2; omega
  have gc : (n : Int) ≤ cap := by have h : n ≤ cap := ho.2.1; omega
  unfold Tell
  clear hs ho
  go_enter Tryz.func68, Tryz.ntmps68
  go_wp2_with fail
  go_loopw [3, 10] (fun v i wr => ∃ (k : Nat) (y : Int), k ≤ n ∧ i = .int .i64 (k : Int) ∧ v = .int .i64 y ∧ Below w.heap.size w wr) (fun _ i _ => n - (intOf i).toNat)
  case atStart => exact ⟨0, 0, by omega, rfl, rfl, Below.refl _ _⟩
  case round =>
    obtain ⟨k, y, hk, rfl, rfl, hB⟩ := hrel
    by_cases hlt : k < n
    · obtain ⟨b, o, rfl, hm1, hm2⟩ := HM.out k hlt
      have c1 := bcellv hB hm1
      have c2 := bcellv hB hm2
      clear hm1 hm2
      have g1 : (k : Int) < n := by omega
      have HB := Lib.hid hB
      clear hB
      go_upto_region 5 with (refine wpList_store_row (o := ⟨none, .store 183 (.tmp 5) (.tmp 14), _, _, _, _⟩) rfl 183 (.tmp 5) (.tmp 14) rfl wr.heap.size #[.string (a k), .string (z k)] (by kernel_rfl) (by kernel_rfl) 183 #[.string ⟨#[]⟩, .string ⟨#[]⟩] (heap_alloc_new wr _) (by kernel_rfl) rfl (by kernel_rfl) ?_; change wpList _ _ _ _ _ ((wr.alloc (Obj.cells #[.string ⟨#[]⟩, .string ⟨#[]⟩] 183)).setRow wr.heap.size _); rw [setRow_alloc])
      have hb4 : Below wr.heap.size wr (wr.alloc (Obj.cells #[.string (a k), .string (z k)] 183)) := (Below.refl _ _).alloc (Nat.le_refl _) _
      have hT4 := heap_alloc_new wr (Obj.cells #[.string (a k), .string (z k)] 183)
      generalize wr.alloc (Obj.cells #[.string (a k), .string (z k)] 183) = w4 at hb4 hT4 ⊢
      have t0 : w4.cell? ⟨wr.heap.size, 0, none⟩ = some (.string (a k)) := (bcell hT4 0).trans rfl
      have t1 : w4.cell? ⟨wr.heap.size, 1, none⟩ = some (.string (z k)) := (bcell hT4 1).trans rfl
      have HB4 := Lib.hid (HB.out.trans (hb4.mono HB.out.size))
      clear hb4 hT4 c1 c2
      generalize wr.heap.size = T at t0 t1 ⊢
      clear HB
      go_upto_region 6 with fail
      generalize wrap64 (y + wrap64 (((a k).size : Int) + ((z k).size : Int))) = Y
      by_cases h1 : ((a k).size : Int) < 1
      · go_wp2_with fail
        go_ret
        exact Told.no HB4.out
      · by_cases h2 : ((a k).size : Int) > 255
        · go_wp2_with fail
          go_ret
          exact Told.no HB4.out
        · by_cases h3 : Y > 60000
          · go_wp2_with fail
            go_ret
            exact Told.no HB4.out
          · go_wp2_with fail
            go_loopw [42] (fun i wq => ∃ j : Nat, j ≤ k ∧ i = .int .i64 (j : Int) ∧ Below w4.heap.size w4 wq) (fun i _ => k - (intOf i).toNat)
            case atStart => exact ⟨0, by omega, rfl, Below.refl _ _⟩
            case round =>
              obtain ⟨j, hj, rfl, hBq⟩ := hrel
              by_cases hjk : j < k
              · obtain ⟨b', o', e', hm1, hm2⟩ := HM.out j (by omega)
                simp only [Option.some.injEq, Addr.mk.injEq, and_true] at e'
                obtain ⟨rfl, rfl⟩ := e'
                have c1 := bcellv hBq (bcellv HB4.out hm1)
                have c2 := bcellv hBq (bcellv HB4.out hm2)
                have gj : (j : Int) < k := by omega
                have q0 := bcellv hBq t0
                have hbq2 := (Below.refl wr.heap.size wr).alloc (Nat.le_refl _) (Obj.cells #[.string (a j), .string (z j)] 183)
                have q0' := bcellv hbq2 q0
                have HBQ := Lib.hid (hBq.alloc hBq.size (Obj.cells #[.string (a j), .string (z j)] 183))
                clear hm1 hm2 hBq hbq2 q0
                go_upto_if 50 with (refine wpList_store_row (o := ⟨none, .store 183 (.tmp 7) (.tmp 45), _, _, _, _⟩) rfl 183 (.tmp 7) (.tmp 45) rfl wr.heap.size #[.string (a j), .string (z j)] (by kernel_rfl) (by kernel_rfl) 183 #[.string ⟨#[]⟩, .string ⟨#[]⟩] (heap_alloc_new wr _) (by kernel_rfl) rfl (by kernel_rfl) ?_; change wpList _ _ _ _ _ ((wr.alloc (Obj.cells #[.string ⟨#[]⟩, .string ⟨#[]⟩] 183)).setRow wr.heap.size _); rw [setRow_alloc])
                have hbz := HBQ.out
                clear HBQ
                generalize wr.alloc (Obj.cells #[.string (a j), .string (z j)] 183) = wz at hbz q0' ⊢
                have HBQ := Lib.hid hbz
                clear hbz q0'
                generalize ((a j).toList == (a k).toList) = r
                cases r
                · go_wp2_with fail
                  go_roundw
                  case rel => exact ⟨j + 1, by omega, by go_num, HBQ.out⟩
                  case measure => simp [intOf]; omega
                · go_wp2_with fail
                  go_ret
                  exact Told.no (HB4.out.trans (HBQ.out.mono HB4.out.size))
              · obtain rfl : j = k := by omega
                have HBQ := Lib.hid (HB4.out.trans (hBq.mono HB4.out.size))
                clear hBq
                go_wp2_with fail
                go_roundw
                case rel => exact ⟨j + 1, Y, by omega, by go_num, rfl, HBQ.out⟩
                case measure => simp [intOf]; omega
    · obtain rfl : k = n := by omega
      have HB := Lib.hid hB
      clear hB
      by_cases h0 : (k : Int) > 0
      · by_cases h1 : (k : Int) < 1000
        · go_wp2_with fail
          go_ret
          exact Told.some _ trivial HB.out
        · go_wp2_with fail
          go_ret
          exact Told.some _ trivial HB.out
      · go_wp2_with fail
        go_ret
        exact Told.some _ trivial HB.out
end Go.Proofs.YtgnmgkpfgmpdfaaGreatDoor
end

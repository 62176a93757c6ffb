/- A region that draws: three calls in a row, two conversions between them, in whatever order. -/
import Derived.Test.YtgnmgkpfgmpdfaaGreatDoorSMet
import Derived.OrdersHeld
import Derived.Lib.ConvBytes
import Derived.Deep.Cut
set_option linter.unusedVariables false
set_option linter.unusedSimpArgs false
section
namespace Go.Proofs.YtgnmgkpfgmpdfaaGreatDoor
open Go.RowKit

section
variable {ops : Array Oper} {Q : Exit → Act → World → Prop} {i d : Nat} {K : Act → World → Prop} {a : Act} {w : World}
theorem wpOp_of {P : Program} {op : Op} (ho : (ops[i]?.map fun o => (o.guard, o.dst, o.op)) = some (none, some d, op)) (h : ∀ o : Oper, o.dst = some d → o.op = op → o.wp P a w K Q) : wpOp P ops Q i K a w := by
  cases hq : ops[i]? with
  | none => simp [hq] at ho
  | some o =>
    simp only [hq, Option.map_some, Option.some.injEq, Prod.mk.injEq] at ho
    unfold wpOp
    simp only [hq]
    rw [if_pos (by simp [Region.wanted, ho.1])]
    exact .inl (h o ho.2.1 ho.2.2)
theorem wpOp_call1 {f t : Nat} {x : Operand} {v : Value} (hf : (Tryz.prog.funcs[f]?).map (fun fn => (fn.name == "runtime.NumGoroutine", fn.body.isSome)) = some (false, true)) (ho : (ops[i]?.map fun o => (o.guard, o.dst, o.op)) = some (none, some d, .call { callee := .value (.func f), args := #[x], argTypes := #[t] })) (hx : a.eval x = v)
    (h : Calls Tryz.prog f #[v] w fun e w' => ∃ u, e = .returned u ∧ K (a.put (some d) u) w') : wpOp Tryz.prog ops Q i K a w := by
  refine wpOp_of ho fun o h1 h2 => ?_
  unfold Oper.wp execOp
  have e1 : a.eval (.func f) = .func (.func f) #[] #[] := rfl
  simp only [h2, resolve, e1, hx, Sem.run_bind, List.map_toArray, List.map_cons, List.map_nil]
  have e2 : (Sem.run Tryz.prog (Deferred.ofValue (Value.func (Fn.func f) #[] #[]) #[v]) w) = .ok { target := .fn (.func f) #[], args := #[v] } w := by
    simp [Deferred.ofValue]
  rw [e2, Result.andThen_ok]
  have e3 : Sem.run Tryz.prog (invoke (.fn (.func f) #[]) #[v]) w = .ok (.enter f #[v]) w := by
    cases hq : Tryz.prog.funcs[f]? with
    | none => simp [hq] at hf
    | some fn =>
      simp only [hq, Option.map_some, Option.some.injEq, Prod.mk.injEq] at hf
      obtain ⟨b, hb⟩ := Option.isSome_iff_exists.1 hf.2
      have h3 : fn.name ≠ "runtime.NumGoroutine" := by simpa using hf.1
      simp [invoke, callFunc, hq, h3, hb]
  rw [e3]
  simp only [Oper.upon]
  refine Calls.mono h ?_
  rintro e w' ⟨u, rfl, hK⟩
  rw [h1]
  exact hK
theorem wpOp_conv {x : Operand} {s : ByteArray} (ho : (ops[i]?.map fun o => (o.guard, o.dst, o.op)) = some (none, some d, .convert 9 24 x)) (hx : a.eval x = .string s)
    (h : K (a.put (some d) (.slice (some ⟨w.heap.size, 0, none⟩) s.size (grownCap w s.size 0 5))) (Lib.bytesWorld w 5 s)) : wpOp Tryz.prog ops Q i K a w := by
  refine wpOp_of ho fun o h1 h2 => ?_
  have hrun := Lib.run_convert_string_bytes (P := Tryz.prog) w 9 24 5 s (u := .string) (by kernel_rfl) (by kernel_rfl) (by kernel_rfl)
  unfold Oper.wp execOp
  simp only [h2, hx, Sem.run_bind, Sem.run_pure, hrun, Result.andThen_ok, Oper.upon, h1]
  exact h
end
/-- One more operation, the only one that may come up. -/
theorem wpAnyH_seq {P : Program} {md : Region.Mode} {ops : Array Oper} {Q : Exit → Act → World → Prop} {S : World → Prop} {n i d : Nat} {op : Op} {v : Value} {listed : Array Bool} {a : Act} {w w' : World} (hr : Region.ready md ops listed = [i])
    (ho : (ops[i]?.map fun o => (o.guard, o.dst, o.op)) = some (none, some d, op)) (hrun : ∀ ty pos after, (execOp a.eval ⟨some d, op, ty, pos, after, none⟩).run P w = .ok (.value v) w') (hS : S w')
    (h : wpAnyH P md ops Q S n (listed.setIfInBounds i true) (a.put (some d) v) w') : wpAnyH P md ops Q S (n + 1) listed a w := by
  refine wpAnyH_all hr (by simp) fun k hk => ?_
  obtain rfl := List.mem_singleton.1 hk
  cases hq : ops[k]? with
  | none => simp [hq] at ho
  | some o =>
    obtain ⟨dst, op', ty, pos, after, guard⟩ := o
    simp only [hq, Option.map_some, Option.some.injEq, Prod.mk.injEq] at ho
    obtain ⟨rfl, rfl, rfl⟩ := ho
    unfold wpOp
    simp only [hq]
    rw [if_pos (by simp [Region.wanted])]
    refine .inl ?_
    unfold Oper.wp
    rw [hrun]
    exact ⟨hS, h⟩
/-- One that yields a value in every world at hand is taken first. -/
theorem wpAnyH_take1 {P : Program} {md : Region.Mode} {ops : Array Oper} {Q : Exit → Act → World → Prop} {S : World → Prop} {n i d : Nat} {op : Op} {v : Value} {listed : Array Bool} {a : Act} {w : World}
    (ho : (ops[i]?.map fun o => (o.guard, o.dst, o.op)) = some (none, some d, op)) (hs : Region.noSelect ops = true) (hf : Region.free md ops listed i = true) (hr : (Region.ready md ops listed).contains i = true)
    (hQ : ∀ c a w, Q (.panic c) (a.put (some d) v) w → Q (.panic c) a w) (hrun : ∀ ty pos after w, S w → (execOp a.eval ⟨some d, op, ty, pos, after, none⟩).run P w = .ok (.value v) w) (hS : S w)
    (h : wpAnyH P md ops Q S n (listed.setIfInBounds i true) (a.put (some d) v) w) : wpAnyH P md ops Q S (n + 1) listed a w := by
  cases hq : ops[i]? with
  | none => simp [hq] at ho
  | some o =>
    obtain ⟨dst, op', ty, pos, after, guard⟩ := o
    simp only [hq, Option.map_some, Option.some.injEq, Prod.mk.injEq] at ho
    obtain ⟨rfl, rfl, rfl⟩ := ho
    exact wpAnyH_take hq hs hf hr hQ (.inl ⟨by simp [Region.wanted], hrun ty pos after⟩) hS h
theorem wpAnyH_ld {P : Program} {md : Region.Mode} {ops : Array Oper} {Q : Exit → Act → World → Prop} {S : World → Prop} {n i d : Nat} {t : TypeId} {x : Operand} {p : Addr} {u : Value} {listed : Array Bool} {a : Act} {w : World}
    (ho : (ops[i]?.map fun o => (o.guard, o.dst, o.op)) = some (none, some d, .load t x)) (hs : Region.noSelect ops = true) (hf : Region.free md ops listed i = true) (hr : (Region.ready md ops listed).contains i = true)
    (hQ : ∀ c a w, Q (.panic c) (a.put (some d) u) w → Q (.panic c) a w) (hx : a.eval x = .pointer (some p)) (hrun : ∀ w, S w → (Instr.loadAt t (.pointer (some p))).run P w = .ok u w) (hS : S w)
    (h : wpAnyH P md ops Q S n (listed.setIfInBounds i true) (a.put (some d) u) w) : wpAnyH P md ops Q S (n + 1) listed a w := by
  refine wpAnyH_take1 ho hs hf hr hQ (fun ty pos after w hw => ?_) hS h
  unfold execOp
  simp only [hx, Sem.run_bind, hrun w hw, Result.andThen_ok, Sem.run_pure]
theorem loadRow {P : Program} {ty : TypeId} {g : Nat} {t : TypeId} {cs : Array Value} {fr : Nat × Nat} {d : TypeDesc} (w : World) (hg : w.heap[g]? = some (.cells cs t fr))
    (hu : P.underlying ty = some d) (hd : (match d with | .struct _ | .array _ _ => true | _ => false) = true) (hi : (P.info? ty).map (·.size) = some cs.size) : (Instr.loadAt ty (.pointer (some ⟨g, 0, none⟩))).run P w = .ok (.agg cs) w := by
  have h := run_loadVar_row w g t ty cs fr d hg hu hd hi
  simp [Instr.loadAt, Instr.sureAddr, h]
theorem load9 (W : World) (p : Addr) (u : Value) (h : W.cell? p = some u) : (Instr.loadAt 9 (.pointer (some p))).run Tryz.prog W = .ok u W := by
  simp [go_sem, Instr.loadAt, Instr.sureAddr, loadVar, h]
theorem load23 (W : World) (p : Addr) (u : Value) (h : W.cell? p = some u) : (Instr.loadAt 23 (.pointer (some p))).run Tryz.prog W = .ok u W := by
  simp [go_sem, Instr.loadAt, Instr.sureAddr, loadVar, h]
theorem load24 (W : World) (p : Addr) (u : Value) (h : W.cell? p = some u) : (Instr.loadAt 24 (.pointer (some p))).run Tryz.prog W = .ok u W := by
  simp [go_sem, Instr.loadAt, Instr.sureAddr, loadVar, h]
/-- Which of the calls comes next. -/
def cop : Nat → Nat
  | 0 => 2
  | 1 => 11
  | _ => 14
def wl (c : Nat) (b5 b8 : Bool) : Array Bool := #[true, true, decide (1 ≤ c), true, true, b5, true, true, b8, true, true, decide (2 ≤ c), true, true, decide (3 ≤ c), true, false, false, false, false]
theorem weave {md : Region.Mode} {ops : Array Oper} {Q : Exit → Act → World → Prop} {B : Nat} {W : World} (fr : Value → Value → Value → Value → Value → Act)
    (F2 : Value → World → Prop) (F5 : Value → World → Prop) (F8 : Value → World → Prop) (F11 : Value → World → Prop) (F14 : Value → World → Prop)
    (hr : ∀ c b5 b8, c ≤ 3 → Region.ready md ops (wl c b5 b8) ≠ [] ∧ ∀ i ∈ Region.ready md ops (wl c b5 b8), (c < 3 ∧ i = cop c) ∨ (b5 = false ∧ i = 5) ∨ (b8 = false ∧ i = 8) ∨ (c = 3 ∧ b5 = true ∧ b8 = true))
    (s2 : ∀ v w w', F2 v w → Below w.heap.size w w' → F2 v w') (s5 : ∀ v w w', F5 v w → Below w.heap.size w w' → F5 v w') (s8 : ∀ v w w', F8 v w → Below w.heap.size w w' → F8 v w')
    (s11 : ∀ v w w', F11 v w → Below w.heap.size w w' → F11 v w') (s14 : ∀ v w w', F14 v w → Below w.heap.size w w' → F14 v w')
    (h2 : ∀ a b c d e w K, Below B W w → (∀ v w', F2 v w' → Below w.heap.size w w' → K (fr v b c d e) w') → wpOp Tryz.prog ops Q 2 K (fr a b c d e) w)
    (h5 : ∀ a b c d e w K, Below B W w → (∀ v w', F5 v w' → Below w.heap.size w w' → K (fr a v c d e) w') → wpOp Tryz.prog ops Q 5 K (fr a b c d e) w)
    (h8 : ∀ a b c d e w K, Below B W w → (∀ v w', F8 v w' → Below w.heap.size w w' → K (fr a b v d e) w') → wpOp Tryz.prog ops Q 8 K (fr a b c d e) w)
    (h11 : ∀ a b c d e w K, Below B W w → (∀ v w', F11 v w' → Below w.heap.size w w' → K (fr a b c v e) w') → wpOp Tryz.prog ops Q 11 K (fr a b c d e) w)
    (h14 : ∀ a b c d e w K, Below B W w → (∀ v w', F14 v w' → Below w.heap.size w w' → K (fr a b c d v) w') → wpOp Tryz.prog ops Q 14 K (fr a b c d e) w) (hB : B = W.heap.size)
    (hend : ∀ a b c d e w, Below B W w → F2 a w → F5 b w → F8 c w → F11 d w → F14 e w → wpAnyH Tryz.prog md ops Q (fun w' => Below B W w') 4 (wl 3 true true) (fr a b c d e) w) :
    ∀ (n c : Nat) (b5 b8 : Bool), c ≤ 3 → n = (3 - c) + (if b5 then 0 else 1) + (if b8 then 0 else 1) → ∀ v2 v5 v8 v11 v14 w, Below B W w → (1 ≤ c → F2 v2 w) → (b5 = true → F5 v5 w) → (b8 = true → F8 v8 w) → (2 ≤ c → F11 v11 w) → (3 ≤ c → F14 v14 w) →
      wpAnyH Tryz.prog md ops Q (fun w' => Below B W w') (n + 4) (wl c b5 b8) (fr v2 v5 v8 v11 v14) w := by
  intro n
  induction n with
  | zero =>
    intro c b5 b8 hc hn v2 v5 v8 v11 v14 w hb f2 f5 f8 f11 f14
    cases b5 <;> cases b8 <;> simp at hn
    obtain rfl : c = 3 := by omega
    exact hend _ _ _ _ _ w hb (f2 (by omega)) (f5 rfl) (f8 rfl) (f11 (by omega)) (f14 (by omega))
  | succ n ih =>
    intro c b5 b8 hc hn v2 v5 v8 v11 v14 w hb f2 f5 f8 f11 f14
    have step : ∀ w', Below w.heap.size w w' → Below B W w' := fun w' h => hb.trans (h.mono (by rw [hB]; exact hb.size))
    obtain ⟨hne, hall⟩ := hr c b5 b8 hc
    rw [show n + 1 + 4 = (n + 4) + 1 by omega]
    refine wpAnyH_all rfl hne fun i hi => ?_
    rcases hall i hi with ⟨hlt, rfl⟩ | ⟨rfl, rfl⟩ | ⟨rfl, rfl⟩ | ⟨rfl, rfl, rfl⟩
    · obtain rfl | rfl | rfl : c = 0 ∨ c = 1 ∨ c = 2 := by omega
      · refine h2 _ _ _ _ _ w _ hb fun v w' hv hbw => ?_
        have e : (wl 0 b5 b8).setIfInBounds (cop 0) true = wl 1 b5 b8 := rfl
        rw [e]
        refine ⟨step w' hbw, ?_⟩
        exact ih 1 b5 b8 (by omega) (by omega) v v5 v8 v11 v14 w' (step w' hbw) (fun _ => hv) (fun h => s5 _ _ _ (f5 h) hbw) (fun h => s8 _ _ _ (f8 h) hbw) (fun h => absurd h (by omega)) (fun h => absurd h (by omega))
      · refine h11 _ _ _ _ _ w _ hb fun v w' hv hbw => ?_
        have e : (wl 1 b5 b8).setIfInBounds (cop 1) true = wl 2 b5 b8 := rfl
        rw [e]
        refine ⟨step w' hbw, ?_⟩
        exact ih 2 b5 b8 (by omega) (by omega) v2 v5 v8 v v14 w' (step w' hbw) (fun h => s2 _ _ _ (f2 (by omega)) hbw) (fun h => s5 _ _ _ (f5 h) hbw) (fun h => s8 _ _ _ (f8 h) hbw) (fun h => hv) (fun h => absurd h (by omega))
      · refine h14 _ _ _ _ _ w _ hb fun v w' hv hbw => ?_
        have e : (wl 2 b5 b8).setIfInBounds (cop 2) true = wl 3 b5 b8 := rfl
        rw [e]
        refine ⟨step w' hbw, ?_⟩
        exact ih 3 b5 b8 (by omega) (by omega) v2 v5 v8 v11 v w' (step w' hbw) (fun h => s2 _ _ _ (f2 (by omega)) hbw) (fun h => s5 _ _ _ (f5 h) hbw) (fun h => s8 _ _ _ (f8 h) hbw) (fun h => s11 _ _ _ (f11 (by omega)) hbw) (fun h => hv)
    · refine h5 _ _ _ _ _ w _ hb fun v w' hv hbw => ?_
      have e : (wl c false b8).setIfInBounds 5 true = wl c true b8 := rfl
      rw [e]
      refine ⟨step w' hbw, ?_⟩
      exact ih c true b8 hc (by simp at hn ⊢; omega) v2 v v8 v11 v14 w' (step w' hbw) (fun h => s2 _ _ _ (f2 h) hbw) (fun h => hv) (fun h => s8 _ _ _ (f8 h) hbw) (fun h => s11 _ _ _ (f11 h) hbw) (fun h => s14 _ _ _ (f14 h) hbw)
    · refine h8 _ _ _ _ _ w _ hb fun v w' hv hbw => ?_
      have e : (wl c b5 false).setIfInBounds 8 true = wl c b5 true := rfl
      rw [e]
      refine ⟨step w' hbw, ?_⟩
      exact ih c b5 true hc (by simp at hn ⊢; omega) v2 v5 v v11 v14 w' (step w' hbw) (fun h => s2 _ _ _ (f2 h) hbw) (fun h => s5 _ _ _ (f5 h) hbw) (fun h => hv) (fun h => s11 _ _ _ (f11 h) hbw) (fun h => s14 _ _ _ (f14 h) hbw)
    · simp at hn
end Go.Proofs.YtgnmgkpfgmpdfaaGreatDoor
end

/- impl.hello of a client hello. -/
section
namespace Go.Proofs.YtgnmgkpfgmpdfaaGreatDoor
open Go.RowKit

theorem wpAnyH_cast {P : Program} {md : Region.Mode} {ops : Array Oper} {Q : Exit → Act → World → Prop} {S : World → Prop} {n n' : Nat} {l l' : Array Bool} {a a' : Act} {w : World} (hn : n = n') (hl : l = l') (ha : a = a') (h : wpAnyH P md ops Q S n' l' a' w) : wpAnyH P md ops Q S n l a w := by
  subst hn; subst hl; subst ha; exact h
def Exts (w : World) (vex : Value) : Prop := ∀ w1, Below w.heap.size w w1 → Calls Tryz.prog 70 #[vex] w1 fun e w' => ∃ px lx cx, e = .returned (.tuple #[.slice px lx cx, .bool true]) ∧ Below w1.heap.size w1 w'
def fr34 (B : Nat) (ms : Array Value) (mj mi : Int) (ck se : ByteArray) (bs os n cps bc oc m cpc : Nat) (px : Option Addr) (lx cx : Nat) (vex v2 v5 v8 v11 v14 : Value) : Act := { tmps := #[.agg ms, .agg #[.int .u8 mj, .int .u8 mi], .pointer (some ⟨B, 0, none⟩), .pointer (some ⟨B + 1, 0, none⟩), .nilIface, .slice px lx cx, .bool true, undef, undef, .tuple #[.slice px lx cx, .bool true], .pointer (some ⟨B, 10, none⟩), vex, .tuple #[.slice px lx cx, .bool true], .slice px lx cx, .bool true, .bool true, .bool false, .pointer (some ⟨B, 0, none⟩), .int .u8 1, .bool true, .agg #[.int .u8 mj, .int .u8 mi], .agg ms, v2, .pointer (some ⟨B, 6, none⟩), .string ck, v5, .pointer (some ⟨B, 7, none⟩), .string se, v8, .pointer (some ⟨B, 8, none⟩), .slice (some ⟨bs, os, none⟩) n cps, v11, .pointer (some ⟨B, 9, none⟩), .slice (some ⟨bc, oc, none⟩) m cpc, v14, .slice px lx cx, undef, undef, undef, undef, undef, undef, undef, undef, undef, undef, undef, undef, undef, undef, undef, undef, undef, undef, undef, undef, undef, undef, undef, undef, undef, undef, undef, undef, undef, undef, undef, undef, undef, undef, undef, undef, undef], defers := [] }
set_option maxRecDepth 100000 in
theorem fr34_22 (B : Nat) (ms : Array Value) (mj mi : Int) (ck se : ByteArray) (bs os n cps bc oc m cpc : Nat) (px : Option Addr) (lx cx : Nat) (vex v2 v5 v8 v11 v14 : Value) (v : Value) : (fr34 B ms mj mi ck se bs os n cps bc oc m cpc px lx cx vex v2 v5 v8 v11 v14).put (some 22) v = fr34 B ms mj mi ck se bs os n cps bc oc m cpc px lx cx vex v v5 v8 v11 v14 := by kernel_rfl
set_option maxRecDepth 100000 in
theorem fr34_25 (B : Nat) (ms : Array Value) (mj mi : Int) (ck se : ByteArray) (bs os n cps bc oc m cpc : Nat) (px : Option Addr) (lx cx : Nat) (vex v2 v5 v8 v11 v14 : Value) (v : Value) : (fr34 B ms mj mi ck se bs os n cps bc oc m cpc px lx cx vex v2 v5 v8 v11 v14).put (some 25) v = fr34 B ms mj mi ck se bs os n cps bc oc m cpc px lx cx vex v2 v v8 v11 v14 := by kernel_rfl
set_option maxRecDepth 100000 in
theorem fr34_28 (B : Nat) (ms : Array Value) (mj mi : Int) (ck se : ByteArray) (bs os n cps bc oc m cpc : Nat) (px : Option Addr) (lx cx : Nat) (vex v2 v5 v8 v11 v14 : Value) (v : Value) : (fr34 B ms mj mi ck se bs os n cps bc oc m cpc px lx cx vex v2 v5 v8 v11 v14).put (some 28) v = fr34 B ms mj mi ck se bs os n cps bc oc m cpc px lx cx vex v2 v5 v v11 v14 := by kernel_rfl
set_option maxRecDepth 100000 in
theorem fr34_31 (B : Nat) (ms : Array Value) (mj mi : Int) (ck se : ByteArray) (bs os n cps bc oc m cpc : Nat) (px : Option Addr) (lx cx : Nat) (vex v2 v5 v8 v11 v14 : Value) (v : Value) : (fr34 B ms mj mi ck se bs os n cps bc oc m cpc px lx cx vex v2 v5 v8 v11 v14).put (some 31) v = fr34 B ms mj mi ck se bs os n cps bc oc m cpc px lx cx vex v2 v5 v8 v v14 := by kernel_rfl
set_option maxRecDepth 100000 in
theorem fr34_34 (B : Nat) (ms : Array Value) (mj mi : Int) (ck se : ByteArray) (bs os n cps bc oc m cpc : Nat) (px : Option Addr) (lx cx : Nat) (vex v2 v5 v8 v11 v14 : Value) (v : Value) : (fr34 B ms mj mi ck se bs os n cps bc oc m cpc px lx cx vex v2 v5 v8 v11 v14).put (some 34) v = fr34 B ms mj mi ck se bs os n cps bc oc m cpc px lx cx vex v2 v5 v8 v11 v := by kernel_rfl
def sby (s : ByteArray) (j : Nat) : UInt8 := s.data.toList.getD j 0
def F8of (s : ByteArray) (v : Value) (w : World) : Prop := ∃ q cap, v = .slice (some ⟨q, 0, none⟩) s.size cap ∧ ∀ j, j < s.size → w.cell? ⟨q, 0 + j, none⟩ = some (.int .u8 ((sby s j).toNat : Int))
def F11of (n : Nat) (su : Nat → Int) (v : Value) (w : World) : Prop := ∃ q cap, v = .slice (some ⟨q, 0, none⟩) n cap ∧ ∀ j, j < n → w.cell? ⟨q, 0 + j, none⟩ = some (.int .u16 (su j))
def F14of (m : Nat) (me : Nat → Int) (v : Value) (w : World) : Prop := ∃ (q cap : Nat) (p : Nat → Nat), v = .slice (some ⟨q, 0, none⟩) m cap ∧ ∀ j, j < m → w.cell? ⟨q, j, none⟩ = some (.pointer (some ⟨p j, 0, none⟩)) ∧ w.cell? ⟨p j, 0, none⟩ = some (.int .u8 (me j))
theorem F8of.below {s : ByteArray} {v : Value} {w w' : World} (h : F8of s v w) (hb : Below w.heap.size w w') : F8of s v w' := by
  obtain ⟨q, cap, hv, hc⟩ := h
  exact ⟨q, cap, hv, fun j hj => bcellv hb (hc j hj)⟩
theorem F11of.below {n : Nat} {su : Nat → Int} {v : Value} {w w' : World} (h : F11of n su v w) (hb : Below w.heap.size w w') : F11of n su v w' := by
  obtain ⟨q, cap, hv, hc⟩ := h
  exact ⟨q, cap, hv, fun j hj => bcellv hb (hc j hj)⟩
theorem F14of.below {m : Nat} {me : Nat → Int} {v : Value} {w w' : World} (h : F14of m me v w) (hb : Below w.heap.size w w') : F14of m me v w' := by
  obtain ⟨q, cap, p, hv, hc⟩ := h
  exact ⟨q, cap, p, hv, fun j hj => ⟨bcellv hb (hc j hj).1, bcellv hb (hc j hj).2⟩⟩
theorem byt_lit {tm : Int} {rd : ByteArray} {l : List Value} (h : rndC tm rd = (Value.int .u32 tm :: l).toArray) : Lib.byteCells rd.data.toList = l := by
  simpa [rndC] using h
theorem hr_of {md : Region.Mode} {ops : Array Oper} {L : Array Bool} {l : List Nat} {R : Nat → Prop} (e : Region.ready md ops L = l) (hne : l ≠ []) (hall : ∀ i ∈ l, R i) : Region.ready md ops L ≠ [] ∧ ∀ i ∈ Region.ready md ops L, R i := by
  rw [e]; exact ⟨hne, hall⟩
theorem row_cells {w : World} {base e n : Nat} {v : Value} {xs : List Value} (h : w.ownsRow base e 1 v n xs) (hn : 0 < n) : ∃ g cap, v = .slice (some ⟨g, 0, none⟩) n cap ∧ ∀ j u, xs[j]? = some u → w.cell? ⟨g, j, none⟩ = some u := by
  obtain ⟨hl, h2⟩ := h
  rcases h2 with ⟨_, h0⟩ | ⟨g, cap, cur, rfl, hg, hh, hc, hm, hs, ht⟩
  · omega
  · refine ⟨g, cap, rfl, fun j u hu => ?_⟩
    have hj : j < n := by have := (List.getElem?_eq_some_iff.1 hu).1; omega
    rw [bcell hh]
    rw [← ht, List.getElem?_take_of_lt (by omega)] at hu
    simpa using hu
theorem lit28 (l : List Value) (h : l.length = 28) (h1 : ∀ u ∈ l, ∃ x, u = .int .u8 x) : ∃ r0 r1 r2 r3 r4 r5 r6 r7 r8 r9 r10 r11 r12 r13 r14 r15 r16 r17 r18 r19 r20 r21 r22 r23 r24 r25 r26 r27 : Int, l = [.int .u8 r0, .int .u8 r1, .int .u8 r2, .int .u8 r3, .int .u8 r4, .int .u8 r5, .int .u8 r6, .int .u8 r7, .int .u8 r8, .int .u8 r9, .int .u8 r10, .int .u8 r11, .int .u8 r12, .int .u8 r13, .int .u8 r14, .int .u8 r15, .int .u8 r16, .int .u8 r17, .int .u8 r18, .int .u8 r19, .int .u8 r20, .int .u8 r21, .int .u8 r22, .int .u8 r23, .int .u8 r24, .int .u8 r25, .int .u8 r26, .int .u8 r27] := by
  match l, h with
  | [u0, u1, u2, u3, u4, u5, u6, u7, u8, u9, u10, u11, u12, u13, u14, u15, u16, u17, u18, u19, u20, u21, u22, u23, u24, u25, u26, u27], _ =>
    obtain ⟨r0, rfl⟩ := h1 u0 (by simp)
    obtain ⟨r1, rfl⟩ := h1 u1 (by simp)
    obtain ⟨r2, rfl⟩ := h1 u2 (by simp)
    obtain ⟨r3, rfl⟩ := h1 u3 (by simp)
    obtain ⟨r4, rfl⟩ := h1 u4 (by simp)
    obtain ⟨r5, rfl⟩ := h1 u5 (by simp)
    obtain ⟨r6, rfl⟩ := h1 u6 (by simp)
    obtain ⟨r7, rfl⟩ := h1 u7 (by simp)
    obtain ⟨r8, rfl⟩ := h1 u8 (by simp)
    obtain ⟨r9, rfl⟩ := h1 u9 (by simp)
    obtain ⟨r10, rfl⟩ := h1 u10 (by simp)
    obtain ⟨r11, rfl⟩ := h1 u11 (by simp)
    obtain ⟨r12, rfl⟩ := h1 u12 (by simp)
    obtain ⟨r13, rfl⟩ := h1 u13 (by simp)
    obtain ⟨r14, rfl⟩ := h1 u14 (by simp)
    obtain ⟨r15, rfl⟩ := h1 u15 (by simp)
    obtain ⟨r16, rfl⟩ := h1 u16 (by simp)
    obtain ⟨r17, rfl⟩ := h1 u17 (by simp)
    obtain ⟨r18, rfl⟩ := h1 u18 (by simp)
    obtain ⟨r19, rfl⟩ := h1 u19 (by simp)
    obtain ⟨r20, rfl⟩ := h1 u20 (by simp)
    obtain ⟨r21, rfl⟩ := h1 u21 (by simp)
    obtain ⟨r22, rfl⟩ := h1 u22 (by simp)
    obtain ⟨r23, rfl⟩ := h1 u23 (by simp)
    obtain ⟨r24, rfl⟩ := h1 u24 (by simp)
    obtain ⟨r25, rfl⟩ := h1 u25 (by simp)
    obtain ⟨r26, rfl⟩ := h1 u26 (by simp)
    obtain ⟨r27, rfl⟩ := h1 u27 (by simp)
    exact ⟨r0, r1, r2, r3, r4, r5, r6, r7, r8, r9, r10, r11, r12, r13, r14, r15, r16, r17, r18, r19, r20, r21, r22, r23, r24, r25, r26, r27, rfl⟩
theorem rnd_lit (tm : Int) (rd : ByteArray) (h : rd.size = 28) : ∃ r0 r1 r2 r3 r4 r5 r6 r7 r8 r9 r10 r11 r12 r13 r14 r15 r16 r17 r18 r19 r20 r21 r22 r23 r24 r25 r26 r27 : Int, rndC tm rd = #[.int .u32 tm, .int .u8 r0, .int .u8 r1, .int .u8 r2, .int .u8 r3, .int .u8 r4, .int .u8 r5, .int .u8 r6, .int .u8 r7, .int .u8 r8, .int .u8 r9, .int .u8 r10, .int .u8 r11, .int .u8 r12, .int .u8 r13, .int .u8 r14, .int .u8 r15, .int .u8 r16, .int .u8 r17, .int .u8 r18, .int .u8 r19, .int .u8 r20, .int .u8 r21, .int .u8 r22, .int .u8 r23, .int .u8 r24, .int .u8 r25, .int .u8 r26, .int .u8 r27] := by
  obtain ⟨r0, r1, r2, r3, r4, r5, r6, r7, r8, r9, r10, r11, r12, r13, r14, r15, r16, r17, r18, r19, r20, r21, r22, r23, r24, r25, r26, r27, e⟩ := lit28 (Lib.byteCells rd.data.toList) (by rw [Lib.byteCells_length]; simpa using h) (fun u hu => by
    simp only [Lib.byteCells, List.mem_map] at hu
    obtain ⟨b, _, rfl⟩ := hu
    exact ⟨_, rfl⟩)
  exact ⟨r0, r1, r2, r3, r4, r5, r6, r7, r8, r9, r10, r11, r12, r13, r14, r15, r16, r17, r18, r19, r20, r21, r22, r23, r24, r25, r26, r27, by unfold rndC; rw [e]⟩
def hel36 (mj mi tm : Int) (rd : ByteArray) (v5 v8 v11 v14 vx : Value) : Array Value := (Value.int .u8 mj :: .int .u8 mi :: .int .u32 tm :: (Lib.byteCells rd.data.toList ++ [v5, v8, v11, v14, vx])).toArray
theorem hel_mid (mj mi tm : Int) (rd : ByteArray) (v5 v8 v11 v14 vx : Value) (h : rd.size = 28) (j : Nat) (hj : j < 28) : (hel36 mj mi tm rd v5 v8 v11 v14 vx)[3 + j]? = some (.int .u8 ((sby rd j).toNat : Int)) := by
  have hl : (Lib.byteCells rd.data.toList).length = 28 := by rw [Lib.byteCells_length]; simpa using h
  have hl2 : rd.data.toList.length = 28 := by simpa using h
  unfold hel36
  rw [show 3 + j = j + 1 + 1 + 1 by omega]
  simp only [List.getElem?_toArray, List.getElem?_cons_succ]
  rw [List.getElem?_append_left (by omega)]
  simp [Lib.byteCells, sby, List.getD, List.getElem?_eq_getElem (show j < rd.data.toList.length by omega)]
theorem hel_end (mj mi tm : Int) (rd : ByteArray) (v5 v8 v11 v14 vx : Value) (h : rd.size = 28) (k : Nat) : (hel36 mj mi tm rd v5 v8 v11 v14 vx)[31 + k]? = [v5, v8, v11, v14, vx][k]? := by
  have hl : (Lib.byteCells rd.data.toList).length = 28 := by rw [Lib.byteCells_length]; simpa using h
  unfold hel36
  rw [show 31 + k = (28 + k) + 1 + 1 + 1 by omega]
  simp only [List.getElem?_toArray, List.getElem?_cons_succ]
  rw [List.getElem?_append_right (by omega), hl, Nat.add_sub_cancel_left]
theorem hel_size (mj mi tm : Int) (rd : ByteArray) (v5 v8 v11 v14 vx : Value) (h : rd.size = 28) : (hel36 mj mi tm rd v5 v8 v11 v14 vx).size = 36 := by
  have hl : (Lib.byteCells rd.data.toList).length = 28 := by rw [Lib.byteCells_length]; simpa using h
  simp only [hel36, List.size_toArray, List.length_cons, List.length_append, hl, List.length_nil]
theorem hel_one (mj mi tm : Int) (rd : ByteArray) (v5 v8 v11 v14 vx : Value) (h5 : v5.oneCell' = true) (h8 : v8.oneCell' = true) (h11 : v11.oneCell' = true) (h14 : v14.oneCell' = true) (hx : vx.oneCell' = true) :
    ∀ u ∈ hel36 mj mi tm rd v5 v8 v11 v14 vx, u.oneCell' = true := by
  intro u hu
  simp only [hel36, List.mem_toArray, List.mem_cons, List.mem_append, List.not_mem_nil, or_false] at hu
  rcases hu with rfl | rfl | rfl | hu | rfl | rfl | rfl | rfl | rfl
  · rfl
  · rfl
  · rfl
  · exact Lib.byteCells_one _ u hu
  all_goals assumption
def HelloAt (w w' : World) (v : Value) (mj mi tm : Int) (rd se : ByteArray) (n : Nat) (su : Nat → Int) (m : Nat) (me : Nat → Int) : Prop :=
  ∃ g0 cs, v = .iface 53 (.pointer (some ⟨g0, 0, none⟩)) ∧ Below w.heap.size w w' ∧ w'.heap[g0]? = some (.cells cs 126 (0, 0)) ∧ cs.size = 36 ∧ (∀ u ∈ cs, u.oneCell' = true) ∧
    ∃ (bse cpse bs cps bm cpm : Nat) (p : Nat → Nat), Hello w' (norm cs) mj mi tm (sby rd) bse se.size cpse (sby se) bs 0 n cps su bm m cpm p me
theorem hello_mk (w : World) (mj mi tm : Int) (rd se : ByteArray) (n : Nat) (su : Nat → Int) (m : Nat) (me : Nat → Int) (v5 vx : Value) (q8 c8 q11 c11 q14 c14 : Nat) (p : Nat → Nat) (hd : rd.size = 28) (hn1 : 1 ≤ n) (hn2 : n ≤ 30000) (hm1 : 1 ≤ m) (hm2 : m ≤ 255) (hse : se.size ≤ 32)
    (h8 : ∀ j, j < se.size → w.cell? ⟨q8, 0 + j, none⟩ = some (.int .u8 ((sby se j).toNat : Int))) (h11 : ∀ j, j < n → w.cell? ⟨q11, 0 + j, none⟩ = some (.int .u16 (su j)))
    (h14 : ∀ j, j < m → w.cell? ⟨q14, j, none⟩ = some (.pointer (some ⟨p j, 0, none⟩)) ∧ w.cell? ⟨p j, 0, none⟩ = some (.int .u8 (me j))) :
    Hello w (norm (hel36 mj mi tm rd v5 (.slice (some ⟨q8, 0, none⟩) se.size c8) (.slice (some ⟨q11, 0, none⟩) n c11) (.slice (some ⟨q14, 0, none⟩) m c14) vx)) mj mi tm (sby rd) q8 se.size c8 (sby se) q11 0 n c11 su q14 m c14 p me := by
  have hs := hel_size mj mi tm rd v5 (.slice (some ⟨q8, 0, none⟩) se.size c8) (.slice (some ⟨q11, 0, none⟩) n c11) (.slice (some ⟨q14, 0, none⟩) m c14) vx hd
  have he := hel_end mj mi tm rd v5 (.slice (some ⟨q8, 0, none⟩) se.size c8) (.slice (some ⟨q11, 0, none⟩) n c11) (.slice (some ⟨q14, 0, none⟩) m c14) vx hd
  have hmid := hel_mid mj mi tm rd v5 (.slice (some ⟨q8, 0, none⟩) se.size c8) (.slice (some ⟨q11, 0, none⟩) n c11) (.slice (some ⟨q14, 0, none⟩) m c14) vx hd
  have h0 : (hel36 mj mi tm rd v5 (.slice (some ⟨q8, 0, none⟩) se.size c8) (.slice (some ⟨q11, 0, none⟩) n c11) (.slice (some ⟨q14, 0, none⟩) m c14) vx)[0]? = some (.int .u8 mj) := rfl
  have h1 : (hel36 mj mi tm rd v5 (.slice (some ⟨q8, 0, none⟩) se.size c8) (.slice (some ⟨q11, 0, none⟩) n c11) (.slice (some ⟨q14, 0, none⟩) m c14) vx)[1]? = some (.int .u8 mi) := rfl
  have h2 : (hel36 mj mi tm rd v5 (.slice (some ⟨q8, 0, none⟩) se.size c8) (.slice (some ⟨q11, 0, none⟩) n c11) (.slice (some ⟨q14, 0, none⟩) m c14) vx)[2]? = some (.int .u32 tm) := rfl
  generalize hel36 mj mi tm rd v5 (.slice (some ⟨q8, 0, none⟩) se.size c8) (.slice (some ⟨q11, 0, none⟩) n c11) (.slice (some ⟨q14, 0, none⟩) m c14) vx = cs at *
  have hn : ∀ k, k ≠ 31 → k ≠ 35 → (norm cs)[k]? = cs[k]? := fun k a b => by
    unfold norm
    rw [Array.getElem?_setIfInBounds_ne (Ne.symm b), Array.getElem?_setIfInBounds_ne (Ne.symm a)]
  exact { c0 := (hn 0 (by omega) (by omega)).trans h0, c1 := (hn 1 (by omega) (by omega)).trans h1, c2 := (hn 2 (by omega) (by omega)).trans h2,
          c3 := fun j hj => (hn _ (by omega) (by omega)).trans (hmid j hj),
          c31 := by unfold norm; rw [Array.getElem?_setIfInBounds_ne (by omega), Array.getElem?_setIfInBounds_self_of_lt (by omega)],
          c32 := (hn 32 (by omega) (by omega)).trans (he 1), c33 := (hn 33 (by omega) (by omega)).trans (he 2), c34 := (hn 34 (by omega) (by omega)).trans (he 3),
          c35 := by unfold norm; rw [Array.getElem?_setIfInBounds_self_of_lt (by rw [Array.size_setIfInBounds]; omega)],
          hse := h8, hsu := h11, hme := h14, ns32 := hse, n1 := hn1, n2 := hn2, m1 := hm1, m2 := hm2 }
theorem bytesWorld_below (w : World) (e : TypeId) (s : ByteArray) : Below w.heap.size w (Lib.bytesWorld w e s) :=
  ⟨rfl, rfl, rfl, by rw [Lib.bytesWorld_size]; omega, fun k hk => Lib.bytesWorld_at_old w e s k hk⟩
theorem conv_F8 (w : World) (s : ByteArray) : F8of s (.slice (some ⟨w.heap.size, 0, none⟩) s.size (grownCap w s.size 0 5)) (Lib.bytesWorld w 5 s) :=
  ⟨_, _, rfl, fun j hj => by rw [Nat.zero_add]; exact Lib.bytesWorld_cell w 5 s j hj⟩
set_option maxHeartbeats 2000000 in
set_option maxRecDepth 100000 in
theorem hello_any (ms : Array Value) (mj0 mi0 mj mi tm : Int) (rd ck se : ByteArray) (bs os n cps : Nat) (su : Nat → Int) (bc oc m cpc : Nat) (me : Nat → Int) (vex : Value) (w : World)
    (hM : Msg ms mj0 mi0 tm rd ck se (.slice (some ⟨bs, os, none⟩) n cps) (.slice (some ⟨bc, oc, none⟩) m cpc) vex) (hex : Exts w vex)
    (hsu : ∀ j, j < n → w.cell? ⟨bs, os + j, none⟩ = some (.int .u16 (su j))) (hco : ∀ j, j < m → w.cell? ⟨bc, oc + j, none⟩ = some (.int .u8 (me j)))
    (hn1 : 1 ≤ n) (hn2 : n ≤ 30000) (hm1 : 1 ≤ m) (hm2 : m ≤ 255) (hse : se.size ≤ 32) :
    Calls Tryz.prog 34 #[.agg ms, .agg #[.int .u8 mj, .int .u8 mi]] w fun e w' => ∃ v, e = .returned v ∧ HelloAt w w' v mj mi tm rd se n su m me := by
  have HM := Lib.hid hM
  have HEX := Lib.hid hex
  have HSU := Lib.hid hsu
  have HCO := Lib.hid hco
  clear hM hex hsu hco
  go_enter Tryz.func34, Tryz.ntmps34
  go_upto_region 1 with fail
  have hB1 : Below w.heap.size w ((w.alloc (Obj.cells ms 31)).alloc (Obj.cells #[Value.int .u8 mj, .int .u8 mi] 81)) := ((Below.refl _ _).alloc (Nat.le_refl _) _).alloc (by simp) _
  have hT1 : ((w.alloc (Obj.cells ms 31)).alloc (Obj.cells #[Value.int .u8 mj, .int .u8 mi] 81)).heap[w.heap.size + 1]? = some (.cells #[Value.int .u8 mj, .int .u8 mi] 81 (0, 0)) := by
    have h := heap_alloc_new (w.alloc (Obj.cells ms 31)) (Obj.cells #[Value.int .u8 mj, .int .u8 mi] 81)
    rwa [World.size_alloc] at h
  have hM1 : ((w.alloc (Obj.cells ms 31)).alloc (Obj.cells #[Value.int .u8 mj, .int .u8 mi] 81)).heap[w.heap.size]? = some (.cells ms 31 (0, 0)) := by
    rw [heap_alloc_old _ _ (by simp)]
    exact heap_alloc_new _ _
  change Code.wp _ _ _ _ ((w.alloc (Obj.cells ms 31)).alloc (Obj.cells #[Value.int .u8 mj, .int .u8 mi] 81))
  generalize (w.alloc (Obj.cells ms 31)).alloc (Obj.cells #[Value.int .u8 mj, .int .u8 mi] 81) = w1 at hB1 hT1 hM1 ⊢
  have k10 := (bcell hM1 10).trans HM.out.c10
  have HB1 := Lib.hid hB1
  have HT1 := Lib.hid hT1
  have HM1 := Lib.hid hM1
  clear hB1 hT1 hM1
  go_wp2_with fail
  refine (HEX.out w1 HB1.out).mono ?_
  rintro e w2 ⟨px, lx, cx, rfl, hb2⟩
  have hB2 := HB1.out.trans (hb2.mono HB1.out.size)
  have hT2 := bblk hb2 HT1.out
  have hM2 := bblk hb2 HM1.out
  have k0 := (bcell hM2 0).trans HM.out.c0
  have HB2 := Lib.hid hB2
  have HT2 := Lib.hid hT2
  have HM2 := Lib.hid hM2
  clear hb2 hB2 hT2 hM2 k10
  dsimp only
  go_upto_region 5 with fail
  refine wp_region_held (S := fun w' => Below w2.drew.heap.size w2.drew w') (by kernel_rfl) ?_
  change wpAnyH _ _ _ _ _ 20 _ _ w2.drew
  have hd2 : Below w.heap.size w w2.drew := HB2.out.drew
  have hdT : w2.drew.heap[w.heap.size + 1]? = _ := HT2.out
  have hdM : w2.drew.heap[w.heap.size]? = _ := HM2.out
  generalize w2.drew = W at hd2 hdT hdM ⊢
  have HB := Lib.hid hd2
  have HT := Lib.hid hdT
  have HMM := Lib.hid hdM
  clear hd2 hdT hdM k0 HB2 HT2 HM2 HB1 HT1 HM1
  have hS0 : Below W.heap.size W W := Below.refl _ _
  have z6 : W.cell? ⟨w.heap.size, 6, none⟩ = some (.string ck) := (bcell HMM.out 6).trans HM.out.c6
  have z7 : W.cell? ⟨w.heap.size, 7, none⟩ = some (.string se) := (bcell HMM.out 7).trans HM.out.c7
  have z8 : W.cell? ⟨w.heap.size, 8, none⟩ = some (.slice (some ⟨bs, os, none⟩) n cps) := (bcell HMM.out 8).trans HM.out.c8
  have z9 : W.cell? ⟨w.heap.size, 9, none⟩ = some (.slice (some ⟨bc, oc, none⟩) m cpc) := (bcell HMM.out 9).trans HM.out.c9
  refine wpAnyH_ld (i := 0) (d := 20) (t := 81) (x := .tmp 3) (p := ⟨w.heap.size + 1, 0, none⟩) (u := .agg #[.int .u8 mj, .int .u8 mi]) (by kernel_rfl) (by kernel_rfl) (by kernel_rfl) (by kernel_rfl) (fun _ _ _ h => h) (by kernel_rfl) (fun w' hw => loadRow w' (bblk hw HT.out) Tryz.underlying81 rfl (hi81 mj mi)) hS0 ?_
  refine wpAnyH_ld (i := 1) (d := 21) (t := 31) (x := .tmp 2) (p := ⟨w.heap.size, 0, none⟩) (u := .agg ms) (by kernel_rfl) (by kernel_rfl) (by kernel_rfl) (by kernel_rfl) (fun _ _ _ h => h) (by kernel_rfl) (fun w' hw => loadRow w' (bblk hw HMM.out) Tryz.underlying31 rfl (by rw [HM.out.sz]; kernel_rfl)) hS0 ?_
  refine wpAnyH_take1 (i := 3) (d := 23) (v := .pointer (some ⟨w.heap.size, 6, none⟩)) (op := .fieldAddr 31 (.tmp 2) 6) (by kernel_rfl) (by kernel_rfl) (by kernel_rfl) (by kernel_rfl) (fun _ _ _ h => h) (fun _ _ _ _ _ => by kernel_rfl) hS0 ?_
  refine wpAnyH_ld (i := 4) (d := 24) (t := 9) (x := .tmp 23) (p := ⟨w.heap.size, 6, none⟩) (u := .string ck) (by kernel_rfl) (by kernel_rfl) (by kernel_rfl) (by kernel_rfl) (fun _ _ _ h => h) (by kernel_rfl) (fun w' hw => load9 _ _ _ (bcellv hw z6)) hS0 ?_
  refine wpAnyH_take1 (i := 6) (d := 26) (v := .pointer (some ⟨w.heap.size, 7, none⟩)) (op := .fieldAddr 31 (.tmp 2) 7) (by kernel_rfl) (by kernel_rfl) (by kernel_rfl) (by kernel_rfl) (fun _ _ _ h => h) (fun _ _ _ _ _ => by kernel_rfl) hS0 ?_
  refine wpAnyH_ld (i := 7) (d := 27) (t := 9) (x := .tmp 26) (p := ⟨w.heap.size, 7, none⟩) (u := .string se) (by kernel_rfl) (by kernel_rfl) (by kernel_rfl) (by kernel_rfl) (fun _ _ _ h => h) (by kernel_rfl) (fun w' hw => load9 _ _ _ (bcellv hw z7)) hS0 ?_
  refine wpAnyH_take1 (i := 9) (d := 29) (v := .pointer (some ⟨w.heap.size, 8, none⟩)) (op := .fieldAddr 31 (.tmp 2) 8) (by kernel_rfl) (by kernel_rfl) (by kernel_rfl) (by kernel_rfl) (fun _ _ _ h => h) (fun _ _ _ _ _ => by kernel_rfl) hS0 ?_
  refine wpAnyH_ld (i := 10) (d := 30) (t := 23) (x := .tmp 29) (p := ⟨w.heap.size, 8, none⟩) (u := .slice (some ⟨bs, os, none⟩) n cps) (by kernel_rfl) (by kernel_rfl) (by kernel_rfl) (by kernel_rfl) (fun _ _ _ h => h) (by kernel_rfl) (fun w' hw => load23 _ _ _ (bcellv hw z8)) hS0 ?_
  refine wpAnyH_take1 (i := 12) (d := 32) (v := .pointer (some ⟨w.heap.size, 9, none⟩)) (op := .fieldAddr 31 (.tmp 2) 9) (by kernel_rfl) (by kernel_rfl) (by kernel_rfl) (by kernel_rfl) (fun _ _ _ h => h) (fun _ _ _ _ _ => by kernel_rfl) hS0 ?_
  refine wpAnyH_ld (i := 13) (d := 33) (t := 24) (x := .tmp 32) (p := ⟨w.heap.size, 9, none⟩) (u := .slice (some ⟨bc, oc, none⟩) m cpc) (by kernel_rfl) (by kernel_rfl) (by kernel_rfl) (by kernel_rfl) (fun _ _ _ h => h) (by kernel_rfl) (fun w' hw => load24 _ _ _ (bcellv hw z9)) hS0 ?_
  refine wpAnyH_take1 (i := 15) (d := 35) (v := .slice px lx cx) (op := .move (.tmp 5)) (by kernel_rfl) (by kernel_rfl) (by kernel_rfl) (by kernel_rfl) (fun _ _ _ h => h) (fun _ _ _ _ _ => by kernel_rfl) hS0 ?_
  refine wpAnyH_cast (n' := 5 + 4) (l' := wl 0 false false) (a' := fr34 w.heap.size ms mj mi ck se bs os n cps bc oc m cpc px lx cx vex undef undef undef undef undef) rfl (by kernel_rfl) (by kernel_rfl) ?_
  refine weave (B := W.heap.size) (W := W) (fr34 w.heap.size ms mj mi ck se bs os n cps bc oc m cpc px lx cx vex)
    (fun v _ => v = .agg (rndC tm rd)) (F8of ck) (F8of se) (F11of n su) (F14of m me) ?hr (fun _ _ _ h _ => h) (fun _ _ _ h => h.below) (fun _ _ _ h => h.below) (fun _ _ _ h => h.below) (fun _ _ _ h => h.below) ?h2 ?h5 ?h8 ?h11 ?h14 rfl ?hend 5 0 false false (by omega) rfl undef undef undef undef undef W hS0 (fun h => absurd h (by omega)) (fun h => by cases h) (fun h => by cases h) (fun h => absurd h (by omega)) (fun h => absurd h (by omega))
  case hr =>
    intro c b5 b8 hc
    obtain rfl | rfl | rfl | rfl : c = 0 ∨ c = 1 ∨ c = 2 ∨ c = 3 := by omega
    all_goals cases b5 <;> cases b8
    · exact hr_of (l := [2, 5, 8]) (by kernel_rfl) (by decide) (by decide)
    · exact hr_of (l := [2, 5]) (by kernel_rfl) (by decide) (by decide)
    · exact hr_of (l := [2, 8]) (by kernel_rfl) (by decide) (by decide)
    · exact hr_of (l := [2]) (by kernel_rfl) (by decide) (by decide)
    · exact hr_of (l := [5, 8, 11]) (by kernel_rfl) (by decide) (by decide)
    · exact hr_of (l := [5, 11]) (by kernel_rfl) (by decide) (by decide)
    · exact hr_of (l := [8, 11]) (by kernel_rfl) (by decide) (by decide)
    · exact hr_of (l := [11]) (by kernel_rfl) (by decide) (by decide)
    · exact hr_of (l := [5, 8, 14]) (by kernel_rfl) (by decide) (by decide)
    · exact hr_of (l := [5, 14]) (by kernel_rfl) (by decide) (by decide)
    · exact hr_of (l := [8, 14]) (by kernel_rfl) (by decide) (by decide)
    · exact hr_of (l := [14]) (by kernel_rfl) (by decide) (by decide)
    · exact hr_of (l := [5, 8]) (by kernel_rfl) (by decide) (by decide)
    · exact hr_of (l := [5]) (by kernel_rfl) (by decide) (by decide)
    · exact hr_of (l := [8]) (by kernel_rfl) (by decide) (by decide)
    · exact hr_of (l := [16]) (by kernel_rfl) (by decide) (by decide)
  case h2 =>
    intro a b c d e w' K hw hK
    refine wpOp_call1 (f := 71) (t := 31) (x := .tmp 21) (v := .agg ms) (d := 22) (by kernel_rfl) (by kernel_rfl) (by kernel_rfl) ((random_any ms tm rd w' HM.out.c4 HM.out.c5 HM.out.rd28).mono ?_)
    rintro e' w'' ⟨rfl, hb⟩
    exact ⟨_, rfl, by rw [fr34_22]; exact hK _ _ rfl hb⟩
  case h5 =>
    intro a b c d e w' K hw hK
    refine wpOp_conv (x := .tmp 24) (s := ck) (d := 25) (by kernel_rfl) (by kernel_rfl) ?_
    rw [fr34_25]
    exact hK _ _ (conv_F8 w' ck) (bytesWorld_below w' 5 ck)
  case h8 =>
    intro a b c d e w' K hw hK
    refine wpOp_conv (x := .tmp 27) (s := se) (d := 28) (by kernel_rfl) (by kernel_rfl) ?_
    rw [fr34_28]
    exact hK _ _ (conv_F8 w' se) (bytesWorld_below w' 5 se)
  case h11 =>
    intro a b c d e w' K hw hK
    obtain ⟨i, hi, hz0, hz1, hz2⟩ := info_parts info28
    refine wpOp_of (d := 31) (op := .call { callee := .builtin .append, args := #[.const (.slice none 0 0), .tmp 30], argTypes := #[23, 23] }) (by kernel_rfl) (fun o ho1 ho2 => ?_)
    refine wp_append_own w' (.const (.slice none 0 0)) (.tmp 30) 23 ho2 w'.heap.size 28 i (.int .u16 0) 1 2 u23 hi hz0 hz1 hz2 rfl (by decide) (.slice none 0 0) 0 [] rfl (World.ownsRow_nil _ _ _ _) ⟨bs, os, none⟩ n cps ((List.range n).map fun j => .int .u16 (su j)) (by kernel_rfl) (by simp) (fun j u hj => ?_) (fun u hu => ?_) (by unfold maxLen; omega) (by omega) (Nat.le_refl _) ?_
    · rw [List.getElem?_map] at hj
      by_cases hjn : j < n
      · rw [List.getElem?_range hjn] at hj
        simp at hj
        subst hj
        rw [addr_add]
        exact bcellv (HB.out.trans (hw.mono HB.out.size)) (HSU.out j hjn)
      · rw [List.getElem?_eq_none (by simp; omega)] at hj
        cases hj
    · obtain ⟨j, _, rfl⟩ := List.mem_map.1 hu
      rfl
    · intro v w'' ho hgr _
      rw [ho1, fr34_31]
      refine hK _ _ ?_ ((Below.refl _ _).grown hgr (Nat.le_refl _) (fun k hk => by cases hk))
      rw [Nat.zero_add, List.nil_append] at ho
      obtain ⟨q, cap, rfl, hc⟩ := row_cells ho (by omega)
      exact ⟨q, cap, rfl, fun j hj => hc _ _ (by rw [Nat.zero_add, List.getElem?_map, List.getElem?_range hj]; rfl)⟩
  case h14 =>
    intro a b c d e w' K hw hK
    refine wpOp_call1 (f := 72) (t := 24) (x := .tmp 33) (v := .slice (some ⟨bc, oc, none⟩) m cpc) (d := 34) (by kernel_rfl) (by kernel_rfl) (by kernel_rfl) ((methods_any bc oc m cpc me w' hm2 (fun j hj => bcellv (HB.out.trans (hw.mono HB.out.size)) (HCO.out j hj))).mono ?_)
    rintro e' w'' ⟨v, p, rfl, ho, hb, hp⟩
    refine ⟨_, rfl, ?_⟩
    rw [fr34_34]
    refine hK _ _ ?_ hb
    obtain ⟨q, cap, rfl, hc⟩ := row_cells ho (by omega)
    exact ⟨q, cap, p, rfl, fun j hj => ⟨hc _ _ (by unfold ptrs; rw [List.getElem?_map, List.getElem?_range hj]; rfl), bcell (hp j hj) 0⟩⟩
  case hend =>
    intro a b c d e w' hw f2 f5 f8 f11 f14
    obtain ⟨r0, r1, r2, r3, r4, r5, r6, r7, r8, r9, r10, r11, r12, r13, r14, r15, r16, r17, r18, r19, r20, r21, r22, r23, r24, r25, r26, r27, hlit⟩ := rnd_lit tm rd HM.out.rd28
    obtain ⟨q5, c5, rfl, h5⟩ := f5
    obtain ⟨q8, c8, rfl, h8⟩ := f8
    obtain ⟨q11, c11, rfl, h11⟩ := f11
    obtain ⟨q14, c14, p, rfl, h14⟩ := f14
    rw [hlit] at f2
    subst f2
    refine wpAnyH_seq (i := 16) (d := 36) (op := .build 126 #[(0, .tmp 20), (1, .tmp 22), (2, .tmp 25), (3, .tmp 28), (4, .tmp 31), (5, .tmp 34), (6, .tmp 35)]) (v := .agg #[.int .u8 mj, .int .u8 mi, .int .u32 tm, .int .u8 r0, .int .u8 r1, .int .u8 r2, .int .u8 r3, .int .u8 r4, .int .u8 r5, .int .u8 r6, .int .u8 r7, .int .u8 r8, .int .u8 r9, .int .u8 r10, .int .u8 r11, .int .u8 r12, .int .u8 r13, .int .u8 r14, .int .u8 r15, .int .u8 r16, .int .u8 r17, .int .u8 r18, .int .u8 r19, .int .u8 r20, .int .u8 r21, .int .u8 r22, .int .u8 r23, .int .u8 r24, .int .u8 r25, .int .u8 r26, .int .u8 r27, .slice (some ⟨q5, 0, none⟩) ck.size c5, .slice (some ⟨q8, 0, none⟩) se.size c8, .slice (some ⟨q11, 0, none⟩) n c11, .slice (some ⟨q14, 0, none⟩) m c14, .slice px lx cx]) (w' := w') (by kernel_rfl) (by kernel_rfl) (fun _ _ _ => by kernel_rfl) hw ?_
    have hcs : (#[.int .u8 mj, .int .u8 mi, .int .u32 tm, .int .u8 r0, .int .u8 r1, .int .u8 r2, .int .u8 r3, .int .u8 r4, .int .u8 r5, .int .u8 r6, .int .u8 r7, .int .u8 r8, .int .u8 r9, .int .u8 r10, .int .u8 r11, .int .u8 r12, .int .u8 r13, .int .u8 r14, .int .u8 r15, .int .u8 r16, .int .u8 r17, .int .u8 r18, .int .u8 r19, .int .u8 r20, .int .u8 r21, .int .u8 r22, .int .u8 r23, .int .u8 r24, .int .u8 r25, .int .u8 r26, .int .u8 r27, .slice (some ⟨q5, 0, none⟩) ck.size c5, .slice (some ⟨q8, 0, none⟩) se.size c8, .slice (some ⟨q11, 0, none⟩) n c11, .slice (some ⟨q14, 0, none⟩) m c14, .slice px lx cx] : Array Value) = (hel36 mj mi tm rd (.slice (some ⟨q5, 0, none⟩) ck.size c5) (.slice (some ⟨q8, 0, none⟩) se.size c8) (.slice (some ⟨q11, 0, none⟩) n c11) (.slice (some ⟨q14, 0, none⟩) m c14) (.slice px lx cx)) := by
      unfold hel36
      rw [byt_lit (l := [.int .u8 r0, .int .u8 r1, .int .u8 r2, .int .u8 r3, .int .u8 r4, .int .u8 r5, .int .u8 r6, .int .u8 r7, .int .u8 r8, .int .u8 r9, .int .u8 r10, .int .u8 r11, .int .u8 r12, .int .u8 r13, .int .u8 r14, .int .u8 r15, .int .u8 r16, .int .u8 r17, .int .u8 r18, .int .u8 r19, .int .u8 r20, .int .u8 r21, .int .u8 r22, .int .u8 r23, .int .u8 r24, .int .u8 r25, .int .u8 r26, .int .u8 r27]) hlit]
      rfl
    rw [hcs]
    refine wpAnyH_seq (i := 17) (d := 37) (op := .box 126 (.tmp 36)) (v := .pointer (some ⟨w'.heap.size, 0, none⟩)) (w' := w'.alloc (.cells (hel36 mj mi tm rd (.slice (some ⟨q5, 0, none⟩) ck.size c5) (.slice (some ⟨q8, 0, none⟩) se.size c8) (.slice (some ⟨q11, 0, none⟩) n c11) (.slice (some ⟨q14, 0, none⟩) m c14) (.slice px lx cx)) 126)) (by kernel_rfl) (by kernel_rfl) (fun _ _ _ => by kernel_rfl) (hw.alloc hw.size _) ?_
    have hh3 := heap_alloc_new w' (Obj.cells (hel36 mj mi tm rd (.slice (some ⟨q5, 0, none⟩) ck.size c5) (.slice (some ⟨q8, 0, none⟩) se.size c8) (.slice (some ⟨q11, 0, none⟩) n c11) (.slice (some ⟨q14, 0, none⟩) m c14) (.slice px lx cx)) 126)
    have hb3 := hw.alloc hw.size (Obj.cells (hel36 mj mi tm rd (.slice (some ⟨q5, 0, none⟩) ck.size c5) (.slice (some ⟨q8, 0, none⟩) se.size c8) (.slice (some ⟨q11, 0, none⟩) n c11) (.slice (some ⟨q14, 0, none⟩) m c14) (.slice px lx cx)) 126)
    have hbw : Below w'.heap.size w' (w'.alloc (Obj.cells (hel36 mj mi tm rd (.slice (some ⟨q5, 0, none⟩) ck.size c5) (.slice (some ⟨q8, 0, none⟩) se.size c8) (.slice (some ⟨q11, 0, none⟩) n c11) (.slice (some ⟨q14, 0, none⟩) m c14) (.slice px lx cx)) 126)) := (Below.refl _ _).alloc (Nat.le_refl _) _
    generalize w'.alloc (Obj.cells (hel36 mj mi tm rd (.slice (some ⟨q5, 0, none⟩) ck.size c5) (.slice (some ⟨q8, 0, none⟩) se.size c8) (.slice (some ⟨q11, 0, none⟩) n c11) (.slice (some ⟨q14, 0, none⟩) m c14) (.slice px lx cx)) 126) = w3 at hh3 hb3 hbw ⊢
    refine wpAnyH_seq (i := 18) (d := 38) (op := .makeInterface 53 (.tmp 37)) (v := .iface 53 (.pointer (some ⟨w'.heap.size, 0, none⟩))) (w' := w3) (by kernel_rfl) (by kernel_rfl) (fun _ _ _ => by kernel_rfl) hb3 ?_
    refine wpAnyH_seq (i := 19) (d := 4) (op := .assign (.tmp 38)) (v := .iface 53 (.pointer (some ⟨w'.heap.size, 0, none⟩))) (w' := w3) (by kernel_rfl) (by kernel_rfl) (fun _ _ _ => by kernel_rfl) hb3 ?_
    refine wpAnyH_done (by kernel_rfl) ?_ 0
    have hfin : HelloAt w w3 (.iface 53 (.pointer (some ⟨w'.heap.size, 0, none⟩))) mj mi tm rd se n su m me := by
      refine ⟨w'.heap.size, _, rfl, HB.out.trans (hb3.mono HB.out.size), hh3, hel_size _ _ _ _ _ _ _ _ _ HM.out.rd28, hel_one _ _ _ _ _ _ _ _ _ rfl rfl rfl rfl rfl, q8, c8, q11, c11, q14, c14, p, ?_⟩
      have hd := HM.out.rd28
      refine hello_mk _ _ _ _ _ _ _ _ _ _ _ _ _ _ _ _ _ _ _ hd hn1 hn2 hm1 hm2 hse (fun j hj => bcellv hbw (h8 j hj)) (fun j hj => bcellv hbw (h11 j hj)) (fun j hj => ⟨bcellv hbw (h14 j hj).1, bcellv hbw (h14 j hj).2⟩)
    have HF := Lib.hid hfin
    clear hfin hh3 hb3 hbw hcs h5 h8 h11 h14
    rename_i KK hKK
    refine hKK _ _ ?_
    refine wp_ret ?_
    change bodyPost Tryz.prog Tryz.f34 (fun e w' => ∃ v, e = .returned v ∧ HelloAt w w' v mj mi tm rd se n su m me) .ret _ w3
    refine bodyPost_ret (v := .iface 53 (.pointer (some ⟨w'.heap.size, 0, none⟩))) (by kernel_rfl) rfl ?_
    exact ⟨_, rfl, HF.out⟩
end Go.Proofs.YtgnmgkpfgmpdfaaGreatDoor
end

/- Moves in a region that draws: calls, guarded operations, an operation by its list law. -/
import Derived.Test.YtgnmgkpfgmpdfaaGreatDoorSByt
set_option linter.unusedVariables false
set_option linter.unusedSimpArgs false
section
namespace Go.Proofs.YtgnmgkpfgmpdfaaGreatDoor
open Go.RowKit

section
variable {P : Program} {md : Region.Mode} {ops : Array Oper} {Q : Exit → Act → World → Prop} {S : World → Prop} {n i d : Nat} {listed : Array Bool} {a : Act} {w w' : World}
/-- What becomes of one operation's ending. -/
def Then1 (K : Act → World → Prop) (Q : Exit → Act → World → Prop) : Exit → Act → World → Prop
  | .normal => K
  | e => Q e
theorem wpOp_list {K : Act → World → Prop} {o : Oper} (hi : ops[i]? = some o) (h : wpList P ops (Then1 K Q) [o] a w) (hg : o.guard = none) : wpOp P ops Q i K a w := by
  have hl : LetsOut (Then1 K Q) → LetsOut Q := fun h => h
  have hu : ∀ r, o.upon P a K (Then1 K Q) r → o.upon P a K Q r := fun r h => by
    cases r with
    | ok m w =>
      cases m
      case enter f args => exact Calls.mono h fun e w'' he => by cases e <;> exact he
      all_goals exact h
    | halt x w => cases x <;> exact h
  unfold wpOp
  simp only [hi]
  unfold wpList at h
  have hw : Region.wanted o (yielded ops a.tmps) = true := by simp [Region.wanted, hg]
  rw [if_pos hw] at h ⊢
  rcases h with h | ⟨h1, h2⟩
  · exact .inl (hu _ h)
  · exact .inr ⟨h1, hl h2⟩
/-- One operation by its list law, the only one that may come up. -/
theorem wpAnyH_list {o : Oper} (hr : Region.ready md ops listed = [i]) (hi : ops[i]? = some o) (hg : o.guard = none)
    (h : wpList P ops (Then1 (fun a' w' => S w' ∧ wpAnyH P md ops Q S n (listed.setIfInBounds i true) a' w') Q) [o] a w) : wpAnyH P md ops Q S (n + 1) listed a w := by
  refine wpAnyH_all hr (by simp) fun k hk => ?_
  obtain rfl := List.mem_singleton.1 hk
  exact wpOp_list hi h hg
/-- A call, the only one that may come up. -/
theorem wpAnyH_call {f : Nat} {xs : Array Operand} {ats : Array TypeId} {vs : Array Value} {S : World → Prop} (hr : Region.ready md ops listed = [i]) (hf : (Tryz.prog.funcs[f]?).map (fun fn => (fn.name == "runtime.NumGoroutine", fn.body.isSome)) = some (false, true))
    (ho : (ops[i]?.map fun o => (o.guard, o.dst, o.op)) = some (none, some d, .call { callee := .value (.func f), args := xs, argTypes := ats })) (hx : xs.map a.eval = vs)
    (h : Calls Tryz.prog f vs w fun e w' => ∃ u, e = .returned u ∧ S w' ∧ wpAnyH Tryz.prog md ops Q S n (listed.setIfInBounds i true) (a.put (some d) u) w') : wpAnyH Tryz.prog md ops Q S (n + 1) listed a w := by
  refine wpAnyH_all hr (by simp) fun k hk => ?_
  obtain rfl := List.mem_singleton.1 hk
  exact wpOp_call hf ho hx (h.mono fun e w' ⟨u, h1, h2, h3⟩ => ⟨u, h1, h2, h3⟩)
/-- One whose guard says no is passed over. -/
theorem wpAnyH_pass {g : Option (Nat × Bool)} {op : Op} (ho : (ops[i]?.map fun o => (o.guard, o.dst, o.op)) = some (g, some d, op)) (hs : Region.noSelect ops = true) (hf : Region.free md ops listed i = true) (hr : (Region.ready md ops listed).contains i = true)
    (hQ : ∀ c a w, Q (.panic c) (a.put (some d) undef) w → Q (.panic c) a w) (hw : (match g with | none => true | some (j, want) => yielded ops a.tmps j == some want) = false) (hS : S w)
    (h : wpAnyH P md ops Q S n (listed.setIfInBounds i true) (a.put (some d) undef) w) : wpAnyH P md ops Q S (n + 1) listed a w := by
  cases hq : ops[i]? with
  | none => simp [hq] at ho
  | some o =>
    obtain ⟨dst, op', ty, pos, after, guard⟩ := o
    simp only [hq, Option.map_some, Option.some.injEq, Prod.mk.injEq] at ho
    obtain ⟨rfl, rfl, rfl⟩ := ho
    exact wpAnyH_take hq hs hf hr hQ (.inr ⟨by unfold Region.wanted; exact hw, rfl⟩) hS h
/-- One whose guard says yes is taken first. -/
theorem wpAnyH_takeG {g : Option (Nat × Bool)} {op : Op} {v : Value} (ho : (ops[i]?.map fun o => (o.guard, o.dst, o.op)) = some (g, some d, op)) (hs : Region.noSelect ops = true) (hf : Region.free md ops listed i = true) (hr : (Region.ready md ops listed).contains i = true)
    (hQ : ∀ c a w, Q (.panic c) (a.put (some d) v) w → Q (.panic c) a w) (hw : (match g with | none => true | some (j, want) => yielded ops a.tmps j == some want) = true)
    (hrun : ∀ ty pos after w, S w → (execOp a.eval ⟨some d, op, ty, pos, after, g⟩).run P w = .ok (.value v) w) (hS : S w)
    (h : wpAnyH P md ops Q S n (listed.setIfInBounds i true) (a.put (some d) v) w) : wpAnyH P md ops Q S (n + 1) listed a w := by
  cases hq : ops[i]? with
  | none => simp [hq] at ho
  | some o =>
    obtain ⟨dst, op', ty, pos, after, guard⟩ := o
    simp only [hq, Option.map_some, Option.some.injEq, Prod.mk.injEq] at ho
    obtain ⟨rfl, rfl, rfl⟩ := ho
    exact wpAnyH_take hq hs hf hr hQ (.inl ⟨by unfold Region.wanted; exact hw, hrun ty pos after⟩) hS h
/-- A load behind a guard that says yes. -/
theorem wpAnyH_ldG {g : Option (Nat × Bool)} {t : TypeId} {x : Operand} {p : Addr} {u : Value} (ho : (ops[i]?.map fun o => (o.guard, o.dst, o.op)) = some (g, some d, .load t x)) (hs : Region.noSelect ops = true) (hf : Region.free md ops listed i = true) (hr : (Region.ready md ops listed).contains i = true)
    (hQ : ∀ c a w, Q (.panic c) (a.put (some d) u) w → Q (.panic c) a w) (hw : (match g with | none => true | some (j, want) => yielded ops a.tmps j == some want) = true) (hx : a.eval x = .pointer (some p)) (hrun : ∀ w, S w → (Instr.loadAt t (.pointer (some p))).run P w = .ok u w) (hS : S w)
    (h : wpAnyH P md ops Q S n (listed.setIfInBounds i true) (a.put (some d) u) w) : wpAnyH P md ops Q S (n + 1) listed a w := by
  refine wpAnyH_takeG ho hs hf hr hQ hw (fun ty pos after w hw => ?_) hS h
  unfold execOp
  simp only [hx, Sem.run_bind, hrun w hw, Result.andThen_ok, Sem.run_pure]
/-- A store, the only one that may come up. -/
theorem wpAnyH_store {t : TypeId} {x y : Operand} {p : Addr} {u : Value} (hr : Region.ready md ops listed = [i])
    (ho : (ops[i]?.map fun o => (o.guard, o.dst, o.op)) = some (none, none, .store t x y)) (hrun : ∀ ty pos after, (execOp a.eval ⟨none, .store t x y, ty, pos, after, none⟩).run P w = .ok .skip (w.setCell p u)) (hS : S (w.setCell p u))
    (h : wpAnyH P md ops Q S n (listed.setIfInBounds i true) a (w.setCell p u)) : wpAnyH P md ops Q S (n + 1) listed a w := by
  refine wpAnyH_all hr (by simp) fun k hk => ?_
  obtain rfl := List.mem_singleton.1 hk
  cases hq : ops[k]? with
  | none => simp [hq] at ho
  | some o =>
    obtain ⟨dst, op', ty, pos, after, guard⟩ := o
    simp only [hq, Option.map_some, Option.some.injEq, Prod.mk.injEq] at ho
    obtain ⟨rfl, rfl, rfl⟩ := ho
    unfold wpOp
    simp only [hq]
    rw [if_pos (by simp [Region.wanted])]
    refine .inl ?_
    unfold Oper.wp
    rw [hrun]
    exact ⟨hS, h⟩
end
end Go.Proofs.YtgnmgkpfgmpdfaaGreatDoor
end

/- A region that draws, with one last writer: what the others read may be taken first. -/
section
namespace Go.Proofs.YtgnmgkpfgmpdfaaGreatDoor
open Go.RowKit

section
variable {P : Program} {ops : Array Oper} {Q : Exit → Act → World → Prop} {md : Region.Mode} {S : World → Prop} {c : Nat}
/-- Whatever order is picked: S holds behind every operation but number c. -/
def wpAnyL (P : Program) (md : Region.Mode) (ops : Array Oper) (Q : Exit → Act → World → Prop) (S : World → Prop) (c : Nat) : Nat → Array Bool → Act → World → Prop
  | 0, l, a, w => Region.ready md ops l = [] ∧ Q .normal a w
  | n + 1, l, a, w => (Region.ready md ops l = [] → Q .normal a w) ∧ ∀ i ∈ Region.ready md ops l, wpOp P ops Q i (fun a' w' => (i = c ∨ S w') ∧ wpAnyL P md ops Q S c n (l.setIfInBounds i true) a' w') a w
theorem wpAny_of_late : ∀ (n : Nat) (l : Array Bool) (a : Act) (w : World), wpAnyL P md ops Q S c n l a w → wpAny P md ops Q n l a w
  | 0, _, _, _, h => h
  | n + 1, _, _, _, h => ⟨h.1, fun i hi => wpOp_mono (fun a' w' k => wpAny_of_late n _ a' w' k.2) (h.2 i hi)⟩
theorem unlisted {l : Array Bool} {i : Nat} (h : l.getD i true = false) : l.getD i false = false := by
  by_cases hi : i < l.size
  · simpa [hi] using h
  · simp [Array.getElem?_eq_none (Nat.le_of_not_lt hi)] at h
theorem wpAnyL_first {i : Nat} {oi : Oper} {v : Value} (hi : ops[i]? = some oi) (hsel : ∀ (j : Nat) (o : Oper) cs b, ops[j]? = some o → o.op ≠ .select cs b)
    (hQ : ∀ k a w, Q (.panic k) (a.put oi.dst v) w → Q (.panic k) a w) (hc : ∃ oc, ops[c]? = some oc ∧ ∃ e ∈ oc.after, Region.binds md e = true ∧ e.on = i) : ∀ (n : Nat) (l : Array Bool) (a : Act) (w : World),
      (∀ j oj, ops[j]? = some oj → j ≠ i → l.getD j true = false → (∀ e ∈ oj.after, Region.binds md e = true → e.on ≠ i) → oi.apart ops oj = true) →
      i ∈ Region.ready md ops l → YieldsIf P ops S oi v a → S w → wpAnyL P md ops Q S c n (l.setIfInBounds i true) (a.put oi.dst v) w → wpAnyL P md ops Q S c (n + 1) l a w := by
  intro n
  induction n with
  | zero =>
    intro l a w _ hr hy hS H
    refine ⟨fun h => (by rw [h] at hr; cases hr), fun j hj => ?_⟩
    by_cases e : j = i
    · subst e
      exact hy.wpOp hi hS ⟨.inr hS, H⟩
    · have := ready_mono hj e
      rw [H.1] at this
      cases this
  | succ n ih =>
    intro l a w hfree hr hy hS H
    have hun := (mem_ready.1 hr).1
    refine ⟨fun h => (by rw [h] at hr; cases hr), fun j hj => ?_⟩
    by_cases e : j = i
    · subst e
      exact hy.wpOp hi hS ⟨.inr hS, H⟩
    · obtain ⟨hj0, oj, hoj, hall⟩ := mem_ready.1 hj
      have hno : ∀ x ∈ oj.after, Region.binds md x = true → x.on ≠ i := fun x hx hb heq => by
        have h1 := hall x hx hb
        rw [heq, unlisted hun] at h1
        cases h1
      have hjc : j ≠ c := fun hjc => by
        obtain ⟨oc, ho, x, hx, hb, hon⟩ := hc
        rw [← hjc, hoj] at ho
        cases ho
        exact hno x hx hb hon
      have h2 := wpOp_putIf hoj (hfree j oj hoj e hj0 hno) (fun cs b => hsel i oi cs b hi) (fun cs b => hsel j oj cs b hoj) hQ hy (H.2 j (ready_mono hj e))
      refine wpOp_mono (fun a' w' h3 => ⟨h3.2.1, ?_⟩) h2
      have hS' : S w' := h3.2.1.resolve_left hjc
      refine ih (l.setIfInBounds j true) a' w' (fun k ok hk hki hu hn => ?_) (ready_mono hr (Ne.symm e)) h3.1 hS' ?_
      · refine hfree k ok hk hki ?_ hn
        by_cases hjk : j = k
        · subst hjk
          exact hj0
        · rwa [getD_set_ne true hjk] at hu
      · rw [Array.setIfInBounds_comm _ _ e]
        exact h3.2.2
variable {n i d : Nat} {listed : Array Bool} {a : Act} {w w' : World}
theorem wpAnyL_takeG {g : Option (Nat × Bool)} {op : Op} {v : Value} (ho : (ops[i]?.map fun o => (o.guard, o.dst, o.op)) = some (g, some d, op)) (hs : Region.noSelect ops = true) (hf : Region.free md ops listed i = true) (hr : (Region.ready md ops listed).contains i = true)
    (hc : (ops[c]?.map fun o => o.after.any fun e => Region.binds md e && e.on == i) = some true)
    (hQ : ∀ c a w, Q (.panic c) (a.put (some d) v) w → Q (.panic c) a w) (hw : (match g with | none => true | some (j, want) => yielded ops a.tmps j == some want) = true)
    (hrun : ∀ ty pos after w, S w → (execOp a.eval ⟨some d, op, ty, pos, after, g⟩).run P w = .ok (.value v) w) (hS : S w)
    (h : wpAnyL P md ops Q S c n (listed.setIfInBounds i true) (a.put (some d) v) w) : wpAnyL P md ops Q S c (n + 1) listed a w := by
  cases hq : ops[i]? with
  | none => simp [hq] at ho
  | some o =>
    obtain ⟨dst, op', ty, pos, after, guard⟩ := o
    simp only [hq, Option.map_some, Option.some.injEq, Prod.mk.injEq] at ho
    obtain ⟨rfl, rfl, rfl⟩ := ho
    refine wpAnyL_first hq (Region.noSelect_spec hs) hQ ?_ n listed a w (Region.free_spec hq hf) (by simpa using hr) (.inl ⟨by unfold Region.wanted; exact hw, hrun ty pos after⟩) hS h
    obtain ⟨oc, h1, h2⟩ := Option.map_eq_some_iff.1 hc
    obtain ⟨e, he, hb⟩ := Array.any_eq_true'.1 h2
    simp only [Bool.and_eq_true, beq_iff_eq] at hb
    exact ⟨oc, h1, e, he, hb.1, hb.2⟩
theorem wpAnyL_ld {t : TypeId} {x : Operand} {p : Addr} {u : Value} (ho : (ops[i]?.map fun o => (o.guard, o.dst, o.op)) = some (none, some d, .load t x)) (hs : Region.noSelect ops = true) (hf : Region.free md ops listed i = true) (hr : (Region.ready md ops listed).contains i = true)
    (hc : (ops[c]?.map fun o => o.after.any fun e => Region.binds md e && e.on == i) = some true)
    (hQ : ∀ c a w, Q (.panic c) (a.put (some d) u) w → Q (.panic c) a w) (hx : a.eval x = .pointer (some p)) (hrun : ∀ w, S w → (Instr.loadAt t (.pointer (some p))).run P w = .ok u w) (hS : S w)
    (h : wpAnyL P md ops Q S c n (listed.setIfInBounds i true) (a.put (some d) u) w) : wpAnyL P md ops Q S c (n + 1) listed a w := by
  refine wpAnyL_takeG ho hs hf hr hc hQ rfl (fun ty pos after w hw => ?_) hS h
  unfold execOp
  simp only [hx, Sem.run_bind, hrun w hw, Result.andThen_ok, Sem.run_pure]
theorem wpAnyL_list {o : Oper} (hr : Region.ready md ops listed = [i]) (hi : ops[i]? = some o) (hg : o.guard = none)
    (h : wpList P ops (Then1 (fun a' w' => (i = c ∨ S w') ∧ wpAnyL P md ops Q S c n (listed.setIfInBounds i true) a' w') Q) [o] a w) : wpAnyL P md ops Q S c (n + 1) listed a w := by
  refine ⟨fun h0 => (by rw [hr] at h0; cases h0), fun k hk => ?_⟩
  rw [hr] at hk
  obtain rfl := List.mem_singleton.1 hk
  exact wpOp_list hi h hg
theorem wpAnyL_seq {op : Op} {v : Value} (hr : Region.ready md ops listed = [i]) (ho : (ops[i]?.map fun o => (o.guard, o.dst, o.op)) = some (none, some d, op)) (hrun : ∀ ty pos after, (execOp a.eval ⟨some d, op, ty, pos, after, none⟩).run P w = .ok (.value v) w') (hS : S w')
    (h : wpAnyL P md ops Q S c n (listed.setIfInBounds i true) (a.put (some d) v) w') : wpAnyL P md ops Q S c (n + 1) listed a w := by
  refine ⟨fun h0 => (by rw [hr] at h0; cases h0), fun k hk => ?_⟩
  rw [hr] at hk
  obtain rfl := List.mem_singleton.1 hk
  cases hq : ops[k]? with
  | none => simp [hq] at ho
  | some o =>
    obtain ⟨dst, op', ty, pos, after, guard⟩ := o
    simp only [hq, Option.map_some, Option.some.injEq, Prod.mk.injEq] at ho
    obtain ⟨rfl, rfl, rfl⟩ := ho
    unfold wpOp
    simp only [hq]
    rw [if_pos (by simp [Region.wanted])]
    refine .inl ?_
    unfold Oper.wp
    rw [hrun]
    exact ⟨.inr hS, h⟩
theorem wpAnyL_conv {x : Operand} {s : ByteArray} (hr : Region.ready md ops listed = [i]) (ho : (ops[i]?.map fun o => (o.guard, o.dst, o.op)) = some (none, some d, .convert 9 24 x)) (hx : a.eval x = .string s) (hS : S (Lib.bytesWorld w 5 s))
    (h : wpAnyL Tryz.prog md ops Q S c n (listed.setIfInBounds i true) (a.put (some d) (.slice (some ⟨w.heap.size, 0, none⟩) s.size (grownCap w s.size 0 5))) (Lib.bytesWorld w 5 s)) : wpAnyL Tryz.prog md ops Q S c (n + 1) listed a w := by
  refine ⟨fun h0 => (by rw [hr] at h0; cases h0), fun k hk => ?_⟩
  rw [hr] at hk
  obtain rfl := List.mem_singleton.1 hk
  exact wpOp_conv ho hx ⟨.inr hS, h⟩
theorem wpAnyL_done (hr : Region.ready md ops listed = []) (h : Q .normal a w) : ∀ n, wpAnyL P md ops Q S c n listed a w
  | 0 => ⟨hr, h⟩
  | _ + 1 => ⟨fun _ => h, by rw [hr]; simp⟩
theorem wp_region_late {id : Nat} (hm : P.follows .mixedOrders = true) (h : wpAnyL P .any ops Q S c ops.size (Array.replicate ops.size false) a w.drew) : (Code.region id ops true).wp P Q a w :=
  wp_region_any hm (wpAny_of_late _ _ _ _ h)
end
end Go.Proofs.YtgnmgkpfgmpdfaaGreatDoor
end

/- What the cells of an argument read as, kind by kind, out of the row's reading. No program in sight. -/
import Derived.Test.YtgnmgkpfgmpdfaaGreatDoorSOwn
import Derived.ChangeArms
set_option linter.unusedVariables false
set_option linter.unusedSimpArgs false
section
namespace Go.Proofs.YtgnmgkpfgmpdfaaGreatDoor
open Go.RowKit

/-- Cells of type t that a row reads, within the reach. -/
def Tr (P : Program) (w : World) (t : TypeId) (cs : List Value) : Prop :=
  ∃ (H : Type) (enc : TypeId × Value → H) (base : Nat) (sp : Nat → Bool) (held : Bool) (fuel : Nat) (y : DataW H × List MemPlace), DataW.trod enc P w base sp held fuel t cs = some y ∧ ∀ n ∈ y.1.weights P t, n ≤ reachBytes

section
variable {P : Program} {t e : TypeId} {w : World} {cs : List Value}
theorem Tr.int {k : IntKind} (ht : P.underlying t = some (.int k)) (h : Tr P w t cs) : ∃ n : Int, cs = [.int k n] ∧ (Lit.int k n).wf = true := by
  obtain ⟨_, _, _, _, _, _, _, h, _⟩ := h
  obtain ⟨n, rfl, _, hw⟩ := DataW.trod_int ht h
  exact ⟨n, rfl, hw⟩
theorem Tr.bool (ht : P.underlying t = some .bool) (h : Tr P w t cs) : ∃ b : Bool, cs = [.bool b] := by
  obtain ⟨_, _, _, _, _, _, _, h, _⟩ := h
  obtain ⟨n, rfl, _⟩ := DataW.trod_bool ht h
  exact ⟨n, rfl⟩
theorem Tr.string (ht : P.underlying t = some .string) (h : Tr P w t cs) : ∃ s : ByteArray, cs = [.string s] ∧ s.size ≤ reachBytes := by
  obtain ⟨_, _, _, _, _, _, _, h, hb⟩ := h
  obtain ⟨s, rfl, rfl, _⟩ := DataW.trod_string ht h
  refine ⟨s, rfl, ?_⟩
  have := hb s.data.toList.length (by rw [DataW.weights]; exact List.mem_singleton.2 rfl)
  rw [Array.length_toList] at this
  exact this
theorem weightsAll_mem {H : Type} {e : TypeId} {ds : List (DataW H)} {d : DataW H} (hd : d ∈ ds) {n : Nat} (hn : n ∈ d.weights P e) : n ∈ DataW.weightsAll P e ds := by
  induction ds with
  | nil => simp at hd
  | cons a r ih =>
    simp only [DataW.weightsAll, List.mem_append]
    rcases List.mem_cons.1 hd with rfl | h
    · exact .inl hn
    · exact .inr (ih h)
theorem weightsEach_mem {H : Type} {ts : List TypeId} {ds : List (DataW H)} {i : Nat} {t : TypeId} {d : DataW H} (ht : ts[i]? = some t) (hd : ds[i]? = some d) {n : Nat} (hn : n ∈ d.weights P t) : n ∈ DataW.weightsEach P ts ds := by
  induction ts generalizing ds i with
  | nil => simp at ht
  | cons a r ih =>
    cases ds with
    | nil => simp at hd
    | cons b s =>
      simp only [DataW.weightsEach, List.mem_append]
      cases i with
      | zero =>
        simp at ht hd
        subst ht; subst hd
        exact .inl hn
      | succ i => exact .inr (ih (by simpa using ht) (by simpa using hd))
theorem Tr.slice (ht : P.underlying t = some (.slice e)) (hpos : 0 < P.cellsOf e) (h : Tr P w t cs) :
    ∃ (p : Option Addr) (n cap : Nat), cs = [.slice p n cap] ∧ (p = none → n = 0 ∧ cap = 0) ∧ n ≤ cap ∧ n * P.bytesOf e ≤ reachBytes ∧
      ∀ j, j < n → ∃ (b o : Nat) (c : List Value), p = some ⟨b, o, none⟩ ∧ c.length = P.cellsOf e ∧ (∀ i u, c[i]? = some u → w.cell? ⟨b, o + j * P.cellsOf e + i, none⟩ = some u) ∧ Tr P w e c := by
  obtain ⟨H, enc, base, sp, held, fuel, y, hr, hb⟩ := h
  rcases DataW.trod_slice ht hr with ⟨rfl, rfl⟩ | ⟨a, len, cap, elems, rest, n, rfl, rfl, rfl, hbase, hle, hcap, hlen, hel, _, _⟩
  · exact ⟨none, 0, 0, rfl, fun _ => ⟨rfl, rfl⟩, Nat.le_refl _, by simp, fun j hj => absurd hj (by omega)⟩
  · have hw : ∀ i, i < len → ∃ c, w.cells? base (a.add (i * P.cellsOf e)) (P.cellsOf e) = some c ∧ Tr P w e c := by
      intro i hi
      have hi' := hel i hi
      have hs : elems[i]? = some (elems[i]'(by omega)) := List.getElem?_eq_getElem (by omega)
      rw [hs] at hi'
      obtain ⟨c, hc1, hc2⟩ := Option.bind_eq_some_iff.1 hi'
      exact ⟨c, hc1, H, enc, base, sp, held, n, _, hc2, fun m hm => hb m (by
        simp only [DataW.weights, ht, List.mem_cons, List.mem_append]
        exact .inr (.inl (weightsAll_mem (List.mem_map.2 ⟨_, List.getElem_mem (by omega), rfl⟩) hm)))⟩
    have hcells : ∀ i, i < len → ∃ c, c.length = P.cellsOf e ∧ (∀ k u, c[k]? = some u → w.cell? (a.add (i * P.cellsOf e + k)) = some u) ∧ Tr P w e c := by
      intro i hi
      obtain ⟨c, hc1, hc2⟩ := hw i hi
      unfold World.cells? at hc1
      split at hc1
      · have hcl := mapM_some_length hc1
        rw [List.length_range] at hcl
        refine ⟨c, hcl, fun k u hu => ?_, hc2⟩
        have hk : k < c.length := (List.getElem?_eq_some_iff.1 hu).1
        have hg := mapM_some_get hc1 k k (by rw [List.getElem?_range (by omega)])
        rw [Addr.add_add] at hg
        exact hg.trans hu
      · cases hc1
    refine ⟨some a, len, cap, rfl, fun h => by simp at h, hle, ?_, fun j hj => ?_⟩
    · have := hb ((elems.length + rest.length) * P.bytesOf e) (by simp [DataW.weights, ht])
      rw [← hlen]
      exact Nat.le_trans (Nat.mul_le_mul_right _ (by omega)) this
    · obtain ⟨c0, l0, g0, _⟩ := hcells 0 (by omega)
      obtain ⟨u0, hu0⟩ : ∃ u, c0[0]? = some u := ⟨c0[0]'(by omega), List.getElem?_eq_getElem (by omega)⟩
      have hsp := World.cell?_spot (g0 0 u0 hu0)
      obtain ⟨b, o, s⟩ := a
      have hs : s = none := by simpa [Addr.add] using hsp
      subst hs
      obtain ⟨c, l, g, ht'⟩ := hcells j hj
      refine ⟨b, o, c, rfl, l, fun i u hu => ?_, ht'⟩
      have := g i u hu
      rw [addr_add] at this
      rw [← this]
      congr 2
      omega
/-- A struct whose fields are of one cell each. -/
theorem Tr.struct1 {fs : Array Field} (ht : P.underlying t = some (.struct fs)) (hc : P.cellsOf t = fs.size) (h1 : ∀ (i : Nat) (f : Field), fs[i]? = some f → f.offset = i ∧ P.cellsOf f.type = 1) (h : Tr P w t cs) :
    cs.length = fs.size ∧ ∀ (i : Nat) (f : Field), fs[i]? = some f → ∃ u, cs[i]? = some u ∧ Tr P w f.type [u] := by
  obtain ⟨H, enc, base, sp, held, fuel, y, hr, hb⟩ := h
  obtain ⟨ys, n, rfl, rfl, hl, hyl, hf⟩ := DataW.trod_struct ht hr
  have hlen : cs.length = fs.size := by omega
  refine ⟨hlen, fun i f hfi => ?_⟩
  have hi : i < fs.size := (Array.getElem?_eq_some_iff.1 hfi).1
  have := hf i f hfi
  obtain ⟨ho, hc1⟩ := h1 i f hfi
  rw [ho, hc1] at this
  obtain ⟨u, hu⟩ : ∃ u, cs[i]? = some u := ⟨cs[i]'(by omega), List.getElem?_eq_getElem (by omega)⟩
  have hd : (cs.drop i).take 1 = [u] := by
    obtain ⟨hi', hu'⟩ := List.getElem?_eq_some_iff.1 hu
    rw [List.drop_eq_getElem_cons hi', hu']
    rfl
  rw [hd] at this
  obtain ⟨y', hy'⟩ : ∃ y', ys[i]? = some y' := ⟨ys[i]'(by omega), List.getElem?_eq_getElem (by omega)⟩
  rw [hy'] at this
  refine ⟨u, hu, H, enc, base, sp, held, n, y', this, fun m hm => hb m ?_⟩
  simp only [DataW.weights, ht]
  exact weightsEach_mem (ts := fs.toList.map (·.type)) (i := i) (by rw [List.getElem?_map]; simp [hfi]) (by rw [List.getElem?_map, hy']; rfl) hm
end
end Go.Proofs.YtgnmgkpfgmpdfaaGreatDoor
end

/- An extension's cells, and what they lead to; out of the row's reading. -/
section
namespace Go.Proofs.YtgnmgkpfgmpdfaaGreatDoor
open Go.RowKit

/-- The reach. -/
abbrev RB : Nat := 140737488351232
/-- What the statements speak of is no longer than this. -/
abbrev MX : Nat := 2147483647
def Sl1 (w : World) (p : Option Addr) (n : Nat) (f : Nat → Value) : Prop := ∀ j, j < n → ∃ b o, p = some ⟨b, o, none⟩ ∧ w.cell? ⟨b, o + j, none⟩ = some (f j)
def Sl2 (w : World) (p : Option Addr) (n : Nat) (f g : Nat → Value) : Prop := ∀ j, j < n → ∃ b o, p = some ⟨b, o, none⟩ ∧ w.cell? ⟨b, o + j * 2, none⟩ = some (f j) ∧ w.cell? ⟨b, o + j * 2 + 1, none⟩ = some (g j)
theorem Sl1.below {w w' : World} {p : Option Addr} {n : Nat} {f : Nat → Value} (h : Sl1 w p n f) (hb : Below w.heap.size w w') : Sl1 w' p n f :=
  fun j hj => by obtain ⟨b, o, e, hc⟩ := h j hj; exact ⟨b, o, e, bcellv hb hc⟩
theorem Sl2.below {w w' : World} {p : Option Addr} {n : Nat} {f g : Nat → Value} (h : Sl2 w p n f g) (hb : Below w.heap.size w w') : Sl2 w' p n f g :=
  fun j hj => by obtain ⟨b, o, e, hc, hd⟩ := h j hj; exact ⟨b, o, e, bcellv hb hc, bcellv hb hd⟩
theorem Sl1.nil (w : World) (f : Nat → Value) : Sl1 w none 0 f := fun j hj => absurd hj (by omega)
theorem Sl2.nil (w : World) (f g : Nat → Value) : Sl2 w none 0 f g := fun j hj => absurd hj (by omega)

/-- An extension's data. -/
structure ED where
  x0 : Int
  s1 : ByteArray
  p2 : Option Addr
  n2 : Nat
  c2 : Nat
  p3 : Option Addr
  n3 : Nat
  c3 : Nat
  p4 : Option Addr
  n4 : Nat
  c4 : Nat
  b5 : Bool
  x6 : Int
  b7 : Bool
  p8 : Option Addr
  n8 : Nat
  c8 : Nat
  p9 : Option Addr
  n9 : Nat
  c9 : Nat
  p10 : Option Addr
  n10 : Nat
  c10 : Nat
  p11 : Option Addr
  n11 : Nat
  c11 : Nat
  p12 : Option Addr
  n12 : Nat
  c12 : Nat
  t2 : Nat → ByteArray
  u3 : Nat → Int
  a4 : Nat → Int
  z4 : Nat → Int
  a8 : Nat → Int
  z8 : Nat → ByteArray
  a9 : Nat → Int
  z9 : Nat → ByteArray
  u10 : Nat → Int
  a11 : Nat → ByteArray
  z11 : Nat → Int
  a12 : Nat → ByteArray
  z12 : Nat → ByteArray
def ED.es (d : ED) : Array Value := #[.int .u16 d.x0, .string d.s1, .slice d.p2 d.n2 d.c2, .slice d.p3 d.n3 d.c3, .slice d.p4 d.n4 d.c4, .bool d.b5, .int .u32 d.x6, .bool d.b7, .slice d.p8 d.n8 d.c8, .slice d.p9 d.n9 d.c9, .slice d.p10 d.n10 d.c10, .slice d.p11 d.n11 d.c11, .slice d.p12 d.n12 d.c12]
theorem ED.g0 (d : ED) : d.es[0]? = some (.int .u16 d.x0) := rfl
theorem ED.g1 (d : ED) : d.es[1]? = some (.string d.s1) := rfl
theorem ED.g2 (d : ED) : d.es[2]? = some (.slice d.p2 d.n2 d.c2) := rfl
theorem ED.g3 (d : ED) : d.es[3]? = some (.slice d.p3 d.n3 d.c3) := rfl
theorem ED.g4 (d : ED) : d.es[4]? = some (.slice d.p4 d.n4 d.c4) := rfl
theorem ED.g5 (d : ED) : d.es[5]? = some (.bool d.b5) := rfl
theorem ED.g6 (d : ED) : d.es[6]? = some (.int .u32 d.x6) := rfl
theorem ED.g7 (d : ED) : d.es[7]? = some (.bool d.b7) := rfl
theorem ED.g8 (d : ED) : d.es[8]? = some (.slice d.p8 d.n8 d.c8) := rfl
theorem ED.g9 (d : ED) : d.es[9]? = some (.slice d.p9 d.n9 d.c9) := rfl
theorem ED.g10 (d : ED) : d.es[10]? = some (.slice d.p10 d.n10 d.c10) := rfl
theorem ED.g11 (d : ED) : d.es[11]? = some (.slice d.p11 d.n11 d.c11) := rfl
theorem ED.g12 (d : ED) : d.es[12]? = some (.slice d.p12 d.n12 d.c12) := rfl
theorem ED.one (d : ED) : d.es.all (·.oneCell') = true := by kernel_rfl
/-- The data of an extension of a type alone. -/
def zED (x : Int) : ED where
  x0 := x
  s1 := ⟨#[]⟩
  p2 := none
  n2 := 0
  c2 := 0
  p3 := none
  n3 := 0
  c3 := 0
  p4 := none
  n4 := 0
  c4 := 0
  b5 := false
  x6 := 0
  b7 := false
  p8 := none
  n8 := 0
  c8 := 0
  p9 := none
  n9 := 0
  c9 := 0
  p10 := none
  n10 := 0
  c10 := 0
  p11 := none
  n11 := 0
  c11 := 0
  p12 := none
  n12 := 0
  c12 := 0
  t2 := fun _ => ⟨#[]⟩
  u3 := fun _ => 0
  a4 := fun _ => 0
  z4 := fun _ => 0
  a8 := fun _ => 0
  z8 := fun _ => ⟨#[]⟩
  a9 := fun _ => 0
  z9 := fun _ => ⟨#[]⟩
  u10 := fun _ => 0
  a11 := fun _ => ⟨#[]⟩
  z11 := fun _ => 0
  a12 := fun _ => ⟨#[]⟩
  z12 := fun _ => ⟨#[]⟩
def NilOk (p : Option Addr) (n c : Nat) : Prop := (p = none → n = 0 ∧ c = 0) ∧ n ≤ c ∧ n ≤ RB
/-- The data are there. -/
structure Ext (w : World) (d : ED) : Prop where
  h1 : d.s1.size ≤ RB
  o2 : NilOk d.p2 d.n2 d.c2
  r2 : Sl1 w d.p2 d.n2 fun j => .string (d.t2 j)
  z2 : ∀ j, j < d.n2 → (d.t2 j).size ≤ RB
  o3 : NilOk d.p3 d.n3 d.c3
  r3 : Sl1 w d.p3 d.n3 fun j => .int .u16 (d.u3 j)
  o4 : NilOk d.p4 d.n4 d.c4
  r4 : Sl2 w d.p4 d.n4 (fun j => .int .u16 (d.a4 j)) (fun j => .int .u16 (d.z4 j))
  o8 : NilOk d.p8 d.n8 d.c8
  r8 : Sl2 w d.p8 d.n8 (fun j => .int .u16 (d.a8 j)) (fun j => .string (d.z8 j))
  z8 : ∀ j, j < d.n8 → (d.z8 j).size ≤ RB
  o9 : NilOk d.p9 d.n9 d.c9
  r9 : Sl2 w d.p9 d.n9 (fun j => .int .u16 (d.a9 j)) (fun j => .string (d.z9 j))
  z9 : ∀ j, j < d.n9 → (d.z9 j).size ≤ RB
  o10 : NilOk d.p10 d.n10 d.c10
  r10 : Sl1 w d.p10 d.n10 fun j => .int .u16 (d.u10 j)
  o11 : NilOk d.p11 d.n11 d.c11
  r11 : Sl2 w d.p11 d.n11 (fun j => .string (d.a11 j)) (fun j => .int .u32 (d.z11 j))
  z11 : ∀ j, j < d.n11 → (d.a11 j).size ≤ RB
  o12 : NilOk d.p12 d.n12 d.c12
  r12 : Sl2 w d.p12 d.n12 (fun j => .string (d.a12 j)) (fun j => .string (d.z12 j))
  z12 : ∀ j, j < d.n12 → (d.a12 j).size ≤ RB ∧ (d.z12 j).size ≤ RB
theorem Ext.below {w w' : World} {d : ED} (h : Ext w d) (hb : Below w.heap.size w w') : Ext w' d :=
  { h with r2 := h.r2.below hb, r3 := h.r3.below hb, r4 := h.r4.below hb, r8 := h.r8.below hb, r9 := h.r9.below hb, r10 := h.r10.below hb, r11 := h.r11.below hb, r12 := h.r12.below hb }
theorem NilOk.nil : NilOk none 0 0 := ⟨fun _ => ⟨rfl, rfl⟩, Nat.le_refl _, Nat.zero_le _⟩
theorem Ext.zero (w : World) (x : Int) : Ext w (zED x) where
  h1 := Nat.zero_le _
  o2 := .nil
  r2 := .nil _ _
  z2 := fun j hj => absurd hj (Nat.not_lt_zero _)
  o3 := .nil
  r3 := .nil _ _
  o4 := .nil
  r4 := .nil _ _ _
  o8 := .nil
  r8 := .nil _ _ _
  z8 := fun j hj => absurd hj (Nat.not_lt_zero _)
  o9 := .nil
  r9 := .nil _ _ _
  z9 := fun j hj => absurd hj (Nat.not_lt_zero _)
  o10 := .nil
  r10 := .nil _ _
  o11 := .nil
  r11 := .nil _ _ _
  z11 := fun j hj => absurd hj (Nat.not_lt_zero _)
  o12 := .nil
  r12 := .nil _ _ _
  z12 := fun j hj => absurd hj (Nat.not_lt_zero _)
/-- Nothing of it is longer than the statements' bound. -/
structure Fit (d : ED) : Prop where
  n2 : d.n2 ≤ MX
  n3 : d.n3 ≤ MX
  n4 : d.n4 ≤ MX
  n8 : d.n8 ≤ MX
  n9 : d.n9 ≤ MX
  n10 : d.n10 ≤ MX
  n11 : d.n11 ≤ MX
  n12 : d.n12 ≤ MX
theorem Fit.zero (x : Int) : Fit (zED x) := ⟨Nat.zero_le _, Nat.zero_le _, Nat.zero_le _, Nat.zero_le _, Nat.zero_le _, Nat.zero_le _, Nat.zero_le _, Nat.zero_le _⟩
/-- A slice of extensions. -/
def SlE (w : World) (p : Option Addr) (n : Nat) (D : Nat → ED) : Prop :=
  ∀ j, j < n → ∃ b o, p = some ⟨b, o, none⟩ ∧ (∀ i u, (D j).es[i]? = some u → w.cell? ⟨b, o + j * 13 + i, none⟩ = some u) ∧ Ext w (D j)
theorem SlE.below {w w' : World} {p : Option Addr} {n : Nat} {D : Nat → ED} (h : SlE w p n D) (hb : Below w.heap.size w w') : SlE w' p n D :=
  fun j hj => by obtain ⟨b, o, e, hc, hd⟩ := h j hj; exact ⟨b, o, e, fun i u hu => bcellv hb (hc i u hu), hd.below hb⟩
theorem own_low {w w' : World} {base e sz n : Nat} {v : Value} {xs : List Value} (h : w.ownsRow base e sz v n xs) (hb : Below w.heap.size w w') : w'.ownsRow base e sz v n xs := by
  obtain ⟨hl, h2⟩ := h
  refine ⟨hl, ?_⟩
  rcases h2 with h2 | ⟨g, cap, cur, hv, hg, hh, r⟩
  · exact .inl h2
  · exact .inr ⟨g, cap, cur, hv, hg, bblk hb hh, r⟩
end Go.Proofs.YtgnmgkpfgmpdfaaGreatDoor
end

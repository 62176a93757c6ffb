/- An extension's data, a message's data out of the row's reading. -/
import Derived.Test.YtgnmgkpfgmpdfaaGreatDoorSExt
import Derived.Test.YtgnmgkpfgmpdfaaGreatDoorSFitC
import Derived.KernelRfl
set_option linter.unusedVariables false
set_option linter.unusedSimpArgs false
section
namespace Go.Proofs.YtgnmgkpfgmpdfaaGreatDoor
open Go.RowKit

theorem choose_fn {α : Type} [Inhabited α] {n : Nat} {Q : Nat → α → Prop} (h : ∀ j, j < n → ∃ x, Q j x) : ∃ f : Nat → α, ∀ j, j < n → Q j (f j) := by
  have h2 : ∀ j, ∃ x, j < n → Q j x := fun j => by
    by_cases hj : j < n
    · obtain ⟨x, hx⟩ := h j hj
      exact ⟨x, fun _ => hx⟩
    · exact ⟨default, fun h => absurd h hj⟩
  exact ⟨fun j => Classical.choose (h2 j), fun j hj => Classical.choose_spec (h2 j) hj⟩
section
variable {P : Program} {t e : TypeId} {w : World}
theorem nilok_of {n cap : Nat} {p : Option Addr} (h1 : p = none → n = 0 ∧ cap = 0) (h2 : n ≤ cap) {k : Nat} (h3 : n * k ≤ reachBytes) (hk : 0 < k) : NilOk p n cap :=
  ⟨h1, h2, by
    have h4 : n * 1 ≤ n * k := Nat.mul_le_mul_left _ hk
    have h5 : reachBytes = RB := rfl
    omega⟩
/-- A slice of elements of one cell. -/
theorem sl1_of {α : Type} [Inhabited α] {K : α → Value} {B : α → Prop} {v : Value} (ht : P.underlying t = some (.slice e)) (hc : P.cellsOf e = 1) (hby : 0 < P.bytesOf e) (hel : ∀ c, Tr P w e c → ∃ x : α, c = [K x] ∧ B x) (h : Tr P w t [v]) :
    ∃ (p : Option Addr) (n cap : Nat) (f : Nat → α), v = .slice p n cap ∧ NilOk p n cap ∧ Sl1 w p n (fun j => K (f j)) ∧ ∀ j, j < n → B (f j) := by
  obtain ⟨p, n, cap, hv, hnil, hle, hby2, hc2⟩ := h.slice ht (by omega)
  obtain ⟨f, hf⟩ := choose_fn (α := α) (n := n) (Q := fun j x => (∃ b o, p = some ⟨b, o, none⟩ ∧ w.cell? ⟨b, o + j, none⟩ = some (K x)) ∧ B x) (fun j hj => by
    obtain ⟨b, o, c, hp, hl, hcell, htr⟩ := hc2 j hj
    obtain ⟨x, rfl, hB⟩ := hel c htr
    refine ⟨x, ⟨b, o, hp, ?_⟩, hB⟩
    have := hcell 0 (K x) rfl
    rw [hc] at this
    simpa using this)
  exact ⟨p, n, cap, f, by simpa using hv, nilok_of hnil hle hby2 hby, fun j hj => (hf j hj).1, fun j hj => (hf j hj).2⟩
/-- A slice of elements of two cells. -/
theorem sl2_of {α β : Type} [Inhabited α] [Inhabited β] {K : α → Value} {L : β → Value} {B : α → β → Prop} {v : Value} (ht : P.underlying t = some (.slice e)) (hc : P.cellsOf e = 2) (hby : 0 < P.bytesOf e) (hel : ∀ c, Tr P w e c → ∃ (x : α) (y : β), c = [K x, L y] ∧ B x y) (h : Tr P w t [v]) :
    ∃ (p : Option Addr) (n cap : Nat) (f : Nat → α) (g : Nat → β), v = .slice p n cap ∧ NilOk p n cap ∧ Sl2 w p n (fun j => K (f j)) (fun j => L (g j)) ∧ ∀ j, j < n → B (f j) (g j) := by
  obtain ⟨p, n, cap, hv, hnil, hle, hby2, hc2⟩ := h.slice ht (by omega)
  obtain ⟨f, hf⟩ := choose_fn (α := α × β) (n := n) (Q := fun j x => (∃ b o, p = some ⟨b, o, none⟩ ∧ w.cell? ⟨b, o + j * 2, none⟩ = some (K x.1) ∧ w.cell? ⟨b, o + j * 2 + 1, none⟩ = some (L x.2)) ∧ B x.1 x.2) (fun j hj => by
    obtain ⟨b, o, c, hp, hl, hcell, htr⟩ := hc2 j hj
    obtain ⟨x, y, rfl, hB⟩ := hel c htr
    have h0 := hcell 0 (K x) rfl
    have h1 := hcell 1 (L y) rfl
    rw [hc] at h0 h1
    exact ⟨(x, y), ⟨b, o, hp, by simpa using h0, by simpa using h1⟩, hB⟩)
  exact ⟨p, n, cap, fun j => (f j).1, fun j => (f j).2, by simpa using hv, nilok_of hnil hle hby2 hby, fun j hj => (hf j hj).1, fun j hj => (hf j hj).2⟩
/-- A struct of two fields of one cell. -/
theorem two_of {α β : Type} {K : α → Value} {L : β → Value} {A : α → Prop} {B : β → Prop} {f0 f1 : Field} {c : List Value} (ht : P.underlying t = some (.struct #[f0, f1])) (hc : P.cellsOf t = 2) (h1 : f0.offset = 0 ∧ P.cellsOf f0.type = 1 ∧ f1.offset = 1 ∧ P.cellsOf f1.type = 1)
    (k0 : ∀ c, Tr P w f0.type c → ∃ x : α, c = [K x] ∧ A x) (k1 : ∀ c, Tr P w f1.type c → ∃ x : β, c = [L x] ∧ B x) (h : Tr P w t c) : ∃ (x : α) (y : β), c = [K x, L y] ∧ A x ∧ B y := by
  obtain ⟨hl, hf⟩ := h.struct1 ht hc (fun i f hi => by
    match i, hi with
    | 0, hi => obtain rfl : f0 = f := by simpa using hi
               exact ⟨h1.1, h1.2.1⟩
    | 1, hi => obtain rfl : f1 = f := by simpa using hi
               exact ⟨h1.2.2.1, h1.2.2.2⟩
    | i + 2, hi => simp at hi)
  obtain ⟨u0, hu0, t0⟩ := hf 0 f0 rfl
  obtain ⟨u1, hu1, t1⟩ := hf 1 f1 rfl
  obtain ⟨x, e0, hA⟩ := k0 _ t0
  obtain ⟨y, e1, hB⟩ := k1 _ t1
  match c, hl with
  | [a, b], _ =>
    simp at hu0 hu1 e0 e1
    subst hu0 hu1 e0 e1
    exact ⟨x, y, rfl, hA, hB⟩
end
end Go.Proofs.YtgnmgkpfgmpdfaaGreatDoor
end

/- The arguments' data out of the row's reading. -/
section
namespace Go.Proofs.YtgnmgkpfgmpdfaaGreatDoor
open Go.RowKit

theorem Tr.fields {P : Program} {t : TypeId} {w : World} {cs : List Value} {fs : Array Field} (ht : P.underlying t = some (.struct fs)) (hc : P.cellsOf t = fs.size)
    (hb : ((List.range fs.size).all fun i => match fs[i]? with | some f => f.offset == i && P.cellsOf f.type == 1 | none => true) = true) (h : Tr P w t cs) :
    cs.length = fs.size ∧ ∀ (i : Nat) (f : Field), fs[i]? = some f → ∃ u, cs[i]? = some u ∧ Tr P w f.type [u] :=
  h.struct1 ht hc fun i f hi => by
    have hi' : i < fs.size := (Array.getElem?_eq_some_iff.1 hi).1
    have := List.all_eq_true.1 hb i (List.mem_range.2 hi')
    simp only [hi, Bool.and_eq_true, beq_iff_eq] at this
    exact this
theorem rd_u8 {w : World} {c : List Value} (h : Tr Tryz.prog w 5 c) : ∃ x : Int, c = [.int .u8 x] ∧ 0 ≤ x ∧ x < 256 := by
  obtain ⟨x, rfl, hw⟩ := h.int Tryz.underlying5
  refine ⟨x, rfl, ?_⟩
  have h : IntKind.u8.min ≤ x ∧ x ≤ IntKind.u8.max := by simpa [Lit.wf] using hw
  have e1 : IntKind.u8.min = 0 := rfl
  have e2 : IntKind.u8.max = 255 := rfl
  omega
theorem rd_u16 {w : World} {c : List Value} (h : Tr Tryz.prog w 28 c) : ∃ x : Int, c = [.int .u16 x] ∧ 0 ≤ x ∧ x < 65536 := by
  obtain ⟨x, rfl, hw⟩ := h.int Tryz.underlying28
  refine ⟨x, rfl, ?_⟩
  have h : IntKind.u16.min ≤ x ∧ x ≤ IntKind.u16.max := by simpa [Lit.wf] using hw
  have e1 : IntKind.u16.min = 0 := rfl
  have e2 : IntKind.u16.max = 65535 := rfl
  omega
theorem rd_u32 {w : World} {c : List Value} (h : Tr Tryz.prog w 22 c) : ∃ x : Int, c = [.int .u32 x] ∧ 0 ≤ x ∧ x < 4294967296 := by
  obtain ⟨x, rfl, hw⟩ := h.int Tryz.underlying22
  refine ⟨x, rfl, ?_⟩
  have h : IntKind.u32.min ≤ x ∧ x ≤ IntKind.u32.max := by simpa [Lit.wf] using hw
  have e1 : IntKind.u32.min = 0 := rfl
  have e2 : IntKind.u32.max = 4294967295 := rfl
  omega
theorem rd_i64 {w : World} {c : List Value} (h : Tr Tryz.prog w 3 c) : ∃ x : Int, c = [.int .i64 x] := by
  obtain ⟨x, rfl, _⟩ := h.int Tryz.underlying3
  exact ⟨x, rfl⟩
theorem rd_bool {w : World} {c : List Value} (h : Tr Tryz.prog w 4 c) : ∃ b : Bool, c = [.bool b] := h.bool Tryz.underlying4
theorem rd_str {w : World} {c : List Value} (h : Tr Tryz.prog w 9 c) : ∃ x : ByteArray, c = [.string x] ∧ x.size ≤ RB := h.string Tryz.underlying9
theorem rd_strs {w : World} {v : Value} (h : Tr Tryz.prog w 26 [v]) : ∃ (p : Option Addr) (n cap : Nat) (f : Nat → ByteArray), v = .slice p n cap ∧ NilOk p n cap ∧ Sl1 w p n (fun j => .string (f j)) ∧ ∀ j, j < n → ((f j)).size ≤ RB :=
  sl1_of (K := fun x => .string x) (B := fun x => (x).size ≤ RB) Tryz.underlying26 (by kernel_rfl) (of_decide_eq_true (by kernel_rfl)) (fun c hc => rd_str hc) h
theorem rd_nums {w : World} {v : Value} (h : Tr Tryz.prog w 23 [v]) : ∃ (p : Option Addr) (n cap : Nat) (f : Nat → Int), v = .slice p n cap ∧ NilOk p n cap ∧ Sl1 w p n (fun j => .int .u16 (f j)) ∧ ∀ j, j < n → 0 ≤ f j ∧ f j < 65536 :=
  sl1_of (K := fun x => .int .u16 x) (B := fun x => 0 ≤ x ∧ x < 65536) Tryz.underlying23 (by kernel_rfl) (of_decide_eq_true (by kernel_rfl)) (fun c hc => rd_u16 hc) h
theorem rd_bytes {w : World} {v : Value} (h : Tr Tryz.prog w 24 [v]) : ∃ (p : Option Addr) (n cap : Nat) (f : Nat → Int), v = .slice p n cap ∧ NilOk p n cap ∧ Sl1 w p n (fun j => .int .u8 (f j)) ∧ ∀ j, j < n → 0 ≤ f j ∧ f j < 256 :=
  sl1_of (K := fun x => .int .u8 x) (B := fun x => 0 ≤ x ∧ x < 256) Tryz.underlying24 (by kernel_rfl) (of_decide_eq_true (by kernel_rfl)) (fun c hc => rd_u8 hc) h
theorem rd_pairs {w : World} {v : Value} (h : Tr Tryz.prog w 27 [v]) : ∃ (p : Option Addr) (n cap : Nat) (f : Nat → Int) (g : Nat → Int), v = .slice p n cap ∧ NilOk p n cap ∧ Sl2 w p n (fun j => .int .u16 (f j)) (fun j => .int .u16 (g j)) ∧ ∀ j, j < n → (0 ≤ f j ∧ f j < 65536) ∧ (0 ≤ g j ∧ g j < 65536) :=
  sl2_of (K := fun x : Int => .int .u16 x) (L := fun x : Int => .int .u16 x) (B := fun (x : Int) (y : Int) => (0 ≤ x ∧ x < 65536) ∧ (0 ≤ y ∧ y < 65536)) Tryz.underlying27 (by kernel_rfl) (of_decide_eq_true (by kernel_rfl)) (fun c hc => two_of (K := fun x : Int => .int .u16 x) (L := fun y : Int => .int .u16 y) (A := fun x : Int => (0 ≤ x ∧ x < 65536)) (B := fun y : Int => (0 ≤ y ∧ y < 65536)) Tryz.underlying51 (by kernel_rfl) ⟨rfl, by kernel_rfl, rfl, by kernel_rfl⟩ (fun c hc => rd_u16 hc) (fun c hc => rd_u16 hc) hc) h
theorem rd_shares {w : World} {v : Value} (h : Tr Tryz.prog w 65 [v]) : ∃ (p : Option Addr) (n cap : Nat) (f : Nat → Int) (g : Nat → ByteArray), v = .slice p n cap ∧ NilOk p n cap ∧ Sl2 w p n (fun j => .int .u16 (f j)) (fun j => .string (g j)) ∧ ∀ j, j < n → (0 ≤ f j ∧ f j < 65536) ∧ (g j).size ≤ RB :=
  sl2_of (K := fun x : Int => .int .u16 x) (L := fun x : ByteArray => .string x) (B := fun (x : Int) (y : ByteArray) => (0 ≤ x ∧ x < 65536) ∧ (y).size ≤ RB) Tryz.underlying65 (by kernel_rfl) (of_decide_eq_true (by kernel_rfl)) (fun c hc => two_of (K := fun x : Int => .int .u16 x) (L := fun y : ByteArray => .string y) (A := fun x : Int => (0 ≤ x ∧ x < 65536)) (B := fun y : ByteArray => (y).size ≤ RB) Tryz.underlying115 (by kernel_rfl) ⟨rfl, by kernel_rfl, rfl, by kernel_rfl⟩ (fun c hc => rd_u16 hc) (fun c hc => rd_str hc) hc) h
theorem rd_ids {w : World} {v : Value} (h : Tr Tryz.prog w 66 [v]) : ∃ (p : Option Addr) (n cap : Nat) (f : Nat → ByteArray) (g : Nat → Int), v = .slice p n cap ∧ NilOk p n cap ∧ Sl2 w p n (fun j => .string (f j)) (fun j => .int .u32 (g j)) ∧ ∀ j, j < n → (f j).size ≤ RB ∧ (0 ≤ g j ∧ g j < 4294967296) :=
  sl2_of (K := fun x : ByteArray => .string x) (L := fun x : Int => .int .u32 x) (B := fun (x : ByteArray) (y : Int) => (x).size ≤ RB ∧ (0 ≤ y ∧ y < 4294967296)) Tryz.underlying66 (by kernel_rfl) (of_decide_eq_true (by kernel_rfl)) (fun c hc => two_of (K := fun x : ByteArray => .string x) (L := fun y : Int => .int .u32 y) (A := fun x : ByteArray => (x).size ≤ RB) (B := fun y : Int => (0 ≤ y ∧ y < 4294967296)) Tryz.underlying180 (by kernel_rfl) ⟨rfl, by kernel_rfl, rfl, by kernel_rfl⟩ (fun c hc => rd_str hc) (fun c hc => rd_u32 hc) hc) h
theorem rd_fils {w : World} {v : Value} (h : Tr Tryz.prog w 67 [v]) : ∃ (p : Option Addr) (n cap : Nat) (f : Nat → ByteArray) (g : Nat → ByteArray), v = .slice p n cap ∧ NilOk p n cap ∧ Sl2 w p n (fun j => .string (f j)) (fun j => .string (g j)) ∧ ∀ j, j < n → (f j).size ≤ RB ∧ (g j).size ≤ RB :=
  sl2_of (K := fun x : ByteArray => .string x) (L := fun x : ByteArray => .string x) (B := fun (x : ByteArray) (y : ByteArray) => (x).size ≤ RB ∧ (y).size ≤ RB) Tryz.underlying67 (by kernel_rfl) (of_decide_eq_true (by kernel_rfl)) (fun c hc => two_of (K := fun x : ByteArray => .string x) (L := fun y : ByteArray => .string y) (A := fun x : ByteArray => (x).size ≤ RB) (B := fun y : ByteArray => (y).size ≤ RB) Tryz.underlying183 (by kernel_rfl) ⟨rfl, by kernel_rfl, rfl, by kernel_rfl⟩ (fun c hc => rd_str hc) (fun c hc => rd_str hc) hc) h
theorem rd_ext {w : World} {c : List Value} (h : Tr Tryz.prog w 69 c) : ∃ d : ED, c = d.es.toList ∧ Ext w d := by
  obtain ⟨hl, hf⟩ := h.fields Tryz.underlying69 (by kernel_rfl) (by kernel_rfl)
  obtain ⟨u0, e0, t0⟩ := hf 0 _ rfl
  obtain ⟨u1, e1, t1⟩ := hf 1 _ rfl
  obtain ⟨u2, e2, t2⟩ := hf 2 _ rfl
  obtain ⟨u3, e3, t3⟩ := hf 3 _ rfl
  obtain ⟨u4, e4, t4⟩ := hf 4 _ rfl
  obtain ⟨u5, e5, t5⟩ := hf 5 _ rfl
  obtain ⟨u6, e6, t6⟩ := hf 6 _ rfl
  obtain ⟨u7, e7, t7⟩ := hf 7 _ rfl
  obtain ⟨u8, e8, t8⟩ := hf 8 _ rfl
  obtain ⟨u9, e9, t9⟩ := hf 9 _ rfl
  obtain ⟨u10, e10, t10⟩ := hf 10 _ rfl
  obtain ⟨u11, e11, t11⟩ := hf 11 _ rfl
  obtain ⟨u12, e12, t12⟩ := hf 12 _ rfl
  obtain ⟨x0, y0, _⟩ := rd_u16 t0
  obtain ⟨x1, y1, z1⟩ := rd_str t1
  obtain ⟨p2, n2, c2, f2, y2, o2, r2, z2⟩ := rd_strs t2
  obtain ⟨p3, n3, c3, f3, y3, o3, r3, z3⟩ := rd_nums t3
  obtain ⟨p4, n4, c4, f4, g4, y4, o4, r4, z4⟩ := rd_pairs t4
  obtain ⟨x5, y5⟩ := rd_bool t5
  obtain ⟨x6, y6, _⟩ := rd_u32 t6
  obtain ⟨x7, y7⟩ := rd_bool t7
  obtain ⟨p8, n8, c8, f8, g8, y8, o8, r8, z8⟩ := rd_shares t8
  obtain ⟨p9, n9, c9, f9, g9, y9, o9, r9, z9⟩ := rd_shares t9
  obtain ⟨p10, n10, c10, f10, y10, o10, r10, z10⟩ := rd_nums t10
  obtain ⟨p11, n11, c11, f11, g11, y11, o11, r11, z11⟩ := rd_ids t11
  obtain ⟨p12, n12, c12, f12, g12, y12, o12, r12, z12⟩ := rd_fils t12
  simp only [List.cons.injEq, and_true] at y0 y1 y5 y6 y7
  subst y0 y1 y2 y3 y4 y5 y6 y7 y8 y9 y10 y11 y12
  refine ⟨{ x0 := x0, s1 := x1, p2 := p2, n2 := n2, c2 := c2, p3 := p3, n3 := n3, c3 := c3, p4 := p4, n4 := n4, c4 := c4, b5 := x5, x6 := x6, b7 := x7, p8 := p8, n8 := n8, c8 := c8, p9 := p9, n9 := n9, c9 := c9, p10 := p10, n10 := n10, c10 := c10, p11 := p11, n11 := n11, c11 := c11, p12 := p12, n12 := n12, c12 := c12, t2 := f2, u3 := f3, a4 := f4, z4 := g4, a8 := f8, z8 := g8, a9 := f9, z9 := g9, u10 := f10, a11 := f11, z11 := g11, a12 := f12, z12 := g12 }, ?_, ?_⟩
  · have hl' : c.length = 13 := hl
    match c, hl' with
    | [a0, a1, a2, a3, a4, a5, a6, a7, a8, a9, a10, a11, a12], _ =>
      simp at e0 e1 e2 e3 e4 e5 e6 e7 e8 e9 e10 e11 e12
      subst e0 e1 e2 e3 e4 e5 e6 e7 e8 e9 e10 e11 e12
      rfl
  · exact { h1 := z1, o2 := o2, r2 := r2, z2 := z2, o3 := o3, r3 := r3, o4 := o4, r4 := r4, o8 := o8, r8 := r8, z8 := fun j hj => (z8 j hj).2, o9 := o9, r9 := r9, z9 := fun j hj => (z9 j hj).2, o10 := o10, r10 := r10, o11 := o11, r11 := r11, z11 := fun j hj => (z11 j hj).1, o12 := o12, r12 := r12, z12 := z12 }
theorem rd_exts {w : World} {v : Value} (h : Tr Tryz.prog w 25 [v]) : ∃ (p : Option Addr) (n cap : Nat) (D : Nat → ED), v = .slice p n cap ∧ NilOk p n cap ∧ SlE w p n D := by
  obtain ⟨p, n, cap, hv, hnil, hle, hby, hc⟩ := h.slice Tryz.underlying25 (of_decide_eq_true (by kernel_rfl))
  have hs : Tryz.prog.cellsOf 69 = 13 := by kernel_rfl
  haveI : Inhabited ED := ⟨zED 0⟩
  obtain ⟨D, hD⟩ := choose_fn (α := ED) (n := n) (Q := fun j d => ∃ b o, p = some ⟨b, o, none⟩ ∧ (∀ i u, d.es[i]? = some u → w.cell? ⟨b, o + j * 13 + i, none⟩ = some u) ∧ Ext w d) (fun j hj => by
    obtain ⟨b, o, c, hp, _, hcell, htr⟩ := hc j hj
    obtain ⟨d, rfl, hx⟩ := rd_ext htr
    refine ⟨d, b, o, hp, fun i u hu => ?_, hx⟩
    have := hcell i u (by simpa using hu)
    rwa [hs] at this)
  exact ⟨p, n, cap, D, by simpa using hv, nilok_of hnil hle hby (of_decide_eq_true (by kernel_rfl)), hD⟩
theorem rd_entries {w : World} {v : Value} (h : Tr Tryz.prog w 29 [v]) : ∃ (p : Option Addr) (n cap : Nat) (z : Nat → ByteArray) (q : Nat → Option Addr) (m c : Nat → Nat), v = .slice p n cap ∧ NilOk p n cap ∧ SlN w p n z q m c := by
  obtain ⟨p, n, cap, hv, hnil, hle, hby, hc⟩ := h.slice Tryz.underlying29 (of_decide_eq_true (by kernel_rfl))
  have hs : Tryz.prog.cellsOf 74 = 2 := by kernel_rfl
  obtain ⟨f, hf⟩ := choose_fn (α := ByteArray × Option Addr × Nat × Nat) (n := n) (Q := fun j x => (∃ b o, p = some ⟨b, o, none⟩ ∧ w.cell? ⟨b, o + j * 2, none⟩ = some (.string x.1) ∧ w.cell? ⟨b, o + j * 2 + 1, none⟩ = some (.slice x.2.1 x.2.2.1 x.2.2.2)) ∧ NilOk x.2.1 x.2.2.1 x.2.2.2 ∧ ∃ D, SlE w x.2.1 x.2.2.1 D) (fun j hj => by
    obtain ⟨b, o, c, hp, _, hcell, htr⟩ := hc j hj
    obtain ⟨hl, hf⟩ := htr.fields Tryz.underlying74 (by kernel_rfl) (by kernel_rfl)
    obtain ⟨u0, e0, t0⟩ := hf 0 _ rfl
    obtain ⟨u1, e1, t1⟩ := hf 1 _ rfl
    obtain ⟨z, y0, _⟩ := rd_str t0
    obtain ⟨q, m, k, D, rfl, ho, hD⟩ := rd_exts t1
    simp only [List.cons.injEq, and_true] at y0
    subst y0
    have h0 := hcell 0 _ e0
    have h1 := hcell 1 _ e1
    rw [hs] at h0 h1
    exact ⟨(z, q, m, k), ⟨b, o, hp, by simpa using h0, by simpa using h1⟩, ho, D, hD⟩)
  exact ⟨p, n, cap, fun j => (f j).1, fun j => (f j).2.1, fun j => (f j).2.2.1, fun j => (f j).2.2.2, by simpa using hv, nilok_of hnil hle hby (of_decide_eq_true (by kernel_rfl)), hf⟩
theorem rd_msg {w : World} {c : List Value} (h : Tr Tryz.prog w 31 c) : ∃ d : MD, c = d.es.toList ∧ MsgR w d := by
  obtain ⟨hl, hf⟩ := h.fields Tryz.underlying31 (by kernel_rfl) (by kernel_rfl)
  obtain ⟨u0, e0, t0⟩ := hf 0 _ rfl
  obtain ⟨u1, e1, t1⟩ := hf 1 _ rfl
  obtain ⟨u2, e2, t2⟩ := hf 2 _ rfl
  obtain ⟨u3, e3, t3⟩ := hf 3 _ rfl
  obtain ⟨u4, e4, t4⟩ := hf 4 _ rfl
  obtain ⟨u5, e5, t5⟩ := hf 5 _ rfl
  obtain ⟨u6, e6, t6⟩ := hf 6 _ rfl
  obtain ⟨u7, e7, t7⟩ := hf 7 _ rfl
  obtain ⟨u8, e8, t8⟩ := hf 8 _ rfl
  obtain ⟨u9, e9, t9⟩ := hf 9 _ rfl
  obtain ⟨u10, e10, t10⟩ := hf 10 _ rfl
  obtain ⟨u11, e11, t11⟩ := hf 11 _ rfl
  obtain ⟨u12, e12, t12⟩ := hf 12 _ rfl
  obtain ⟨u13, e13, t13⟩ := hf 13 _ rfl
  obtain ⟨u14, e14, t14⟩ := hf 14 _ rfl
  obtain ⟨u15, e15, t15⟩ := hf 15 _ rfl
  obtain ⟨u16, e16, t16⟩ := hf 16 _ rfl
  obtain ⟨u17, e17, t17⟩ := hf 17 _ rfl
  obtain ⟨u18, e18, t18⟩ := hf 18 _ rfl
  obtain ⟨u19, e19, t19⟩ := hf 19 _ rfl
  obtain ⟨u20, e20, t20⟩ := hf 20 _ rfl
  obtain ⟨u21, e21, t21⟩ := hf 21 _ rfl
  obtain ⟨u22, e22, t22⟩ := hf 22 _ rfl
  obtain ⟨u23, e23, t23⟩ := hf 23 _ rfl
  obtain ⟨u24, e24, t24⟩ := hf 24 _ rfl
  obtain ⟨x0, y0, w0⟩ := rd_u8 t0
  obtain ⟨x1, y1⟩ := rd_bool t1
  obtain ⟨x2, y2, w2⟩ := rd_u8 t2
  obtain ⟨x3, y3, w3⟩ := rd_u8 t3
  obtain ⟨x4, y4, w4⟩ := rd_u32 t4
  obtain ⟨x5, y5, z5⟩ := rd_str t5
  obtain ⟨x6, y6, z6⟩ := rd_str t6
  obtain ⟨x7, y7, z7⟩ := rd_str t7
  obtain ⟨p8, n8, c8, f8, y8, o8, r8, z8⟩ := rd_nums t8
  obtain ⟨p9, n9, c9, f9, y9, o9, r9, z9⟩ := rd_bytes t9
  obtain ⟨p10, n10, c10, D10, y10, o10, r10⟩ := rd_exts t10
  obtain ⟨p11, n11, c11, f11, y11, o11, r11, z11⟩ := rd_strs t11
  obtain ⟨p12, n12, c12, f12, y12, o12, r12, z12⟩ := rd_bytes t12
  obtain ⟨p13, n13, c13, f13, g13, y13, o13, r13, z13⟩ := rd_pairs t13
  obtain ⟨x14, y14, w14⟩ := rd_u16 t14
  obtain ⟨x15, y15, w15⟩ := rd_u16 t15
  obtain ⟨x16, y16, z16⟩ := rd_str t16
  obtain ⟨x17, y17, z17⟩ := rd_str t17
  obtain ⟨x18, y18, z18⟩ := rd_str t18
  obtain ⟨x19, y19⟩ := rd_i64 t19
  obtain ⟨x20, y20, w20⟩ := rd_u8 t20
  obtain ⟨x21, y21, w21⟩ := rd_u16 t21
  obtain ⟨x22, y22, z22⟩ := rd_str t22
  obtain ⟨x23, y23, z23⟩ := rd_str t23
  obtain ⟨p24, n24, c24, zz24, qq24, mm24, kk24, y24, o24, r24⟩ := rd_entries t24
  simp only [List.cons.injEq, and_true] at y0 y1 y2 y3 y4 y5 y6 y7 y14 y15 y16 y17 y18 y19 y20 y21 y22 y23
  subst y0 y1 y2 y3 y4 y5 y6 y7 y8 y9 y10 y11 y12 y13 y14 y15 y16 y17 y18 y19 y20 y21 y22 y23 y24
  refine ⟨{ x0 := x0, b1 := x1, x2 := x2, x3 := x3, x4 := x4, s5 := x5, s6 := x6, s7 := x7, p8 := p8, n8 := n8, c8 := c8, p9 := p9, n9 := n9, c9 := c9, p10 := p10, n10 := n10, c10 := c10, p11 := p11, n11 := n11, c11 := c11, p12 := p12, n12 := n12, c12 := c12, p13 := p13, n13 := n13, c13 := c13, x14 := x14, x15 := x15, s16 := x16, s17 := x17, s18 := x18, x19 := x19, x20 := x20, x21 := x21, s22 := x22, s23 := x23, p24 := p24, n24 := n24, c24 := c24, u8 := f8, u9 := f9, D10 := D10, t11 := f11, z24 := zz24, q24 := qq24, m24 := mm24, k24 := kk24 }, ?_, ?_⟩
  · have hl' : c.length = 25 := hl
    match c, hl' with
    | [a0, a1, a2, a3, a4, a5, a6, a7, a8, a9, a10, a11, a12, a13, a14, a15, a16, a17, a18, a19, a20, a21, a22, a23, a24], _ =>
      simp at e0 e1 e2 e3 e4 e5 e6 e7 e8 e9 e10 e11 e12 e13 e14 e15 e16 e17 e18 e19 e20 e21 e22 e23 e24
      subst e0 e1 e2 e3 e4 e5 e6 e7 e8 e9 e10 e11 e12 e13 e14 e15 e16 e17 e18 e19 e20 e21 e22 e23 e24
      rfl
  · exact { h4 := w4, r8 := r8, z8 := z8, o9 := o9, r9 := r9, o10 := o10, r10 := r10, o11 := o11, r11 := r11, o24 := o24, r24 := r24 }
end Go.Proofs.YtgnmgkpfgmpdfaaGreatDoor
end

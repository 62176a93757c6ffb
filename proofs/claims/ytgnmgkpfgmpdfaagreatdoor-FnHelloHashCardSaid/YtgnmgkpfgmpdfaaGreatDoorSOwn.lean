/- sha256.New: a digest at its begin. -/
import Derived.Test.YtgnmgkpfgmpdfaaGreatDoorSBlk
import Derived.WalkKit
import Derived.LoopTactic
import Derived.Laws.CopyOwn
import Derived.Lib.QuoteBits
import Derived.OwnWalk
import Derived.Laws.AppendOwnNone
set_option linter.unusedVariables false
set_option linter.unusedSimpArgs false
section
namespace Go.Proofs.YtgnmgkpfgmpdfaaGreatDoor
open Go.RowKit

/-- What Reset leaves. -/
def reset (cs : Array Value) : Array Value := ((put8 cs sha0).setIfInBounds 72 (.int .i64 0)).setIfInBounds 73 (.int .u64 0)
set_option maxHeartbeats 1000000 in
set_option maxRecDepth 100000 in
theorem reset_any (g : Nat) (cs : Array Value) (w : World) (h75 : cs.size = 75) (h74 : cs[74]? = some (.bool false)) (hb : w.heap[g]? = some (.cells cs 235 (0, 0))) :
    Calls Tryz.prog 114 #[.pointer (some ⟨g, 0, none⟩)] w fun e w' => e = .returned (.tuple #[]) ∧ w'.heap[g]? = some (.cells (reset cs) 235 (0, 0)) ∧ Chg w w' (fun i => i = g) := by
  have H := Lib.hid hb
  have z74 := (bcell hb 74).trans h74
  clear h74
  have c0 := (bcell hb 0).trans (Array.getElem?_eq_getElem (by omega))
  have f0 := bfrozen hb 0
  have c1 := (bcell hb 1).trans (Array.getElem?_eq_getElem (by omega))
  have f1 := bfrozen hb 1
  have c2 := (bcell hb 2).trans (Array.getElem?_eq_getElem (by omega))
  have f2 := bfrozen hb 2
  have c3 := (bcell hb 3).trans (Array.getElem?_eq_getElem (by omega))
  have f3 := bfrozen hb 3
  have c4 := (bcell hb 4).trans (Array.getElem?_eq_getElem (by omega))
  have f4 := bfrozen hb 4
  have c5 := (bcell hb 5).trans (Array.getElem?_eq_getElem (by omega))
  have f5 := bfrozen hb 5
  have c6 := (bcell hb 6).trans (Array.getElem?_eq_getElem (by omega))
  have f6 := bfrozen hb 6
  have c7 := (bcell hb 7).trans (Array.getElem?_eq_getElem (by omega))
  have f7 := bfrozen hb 7
  have c72 := (bcell hb 72).trans (Array.getElem?_eq_getElem (by omega))
  have f72 := bfrozen hb 72
  have c73 := (bcell hb 73).trans (Array.getElem?_eq_getElem (by omega))
  have f73 := bfrozen hb 73
  clear hb
  go_enter Tryz.func114, Tryz.ntmps114
  go_wp2
  have b0 := bset H.out 0 (.int .u32 sha0.a)
  have d0 := (Chg.refl w (fun i => i = g)).setCell (p := ⟨g, 0, none⟩) (.inl rfl) (.int .u32 sha0.a)
  have b1 := bset b0 1 (.int .u32 sha0.b)
  have d1 := d0.setCell (p := ⟨g, 1, none⟩) (.inl rfl) (.int .u32 sha0.b)
  have b2 := bset b1 2 (.int .u32 sha0.c)
  have d2 := d1.setCell (p := ⟨g, 2, none⟩) (.inl rfl) (.int .u32 sha0.c)
  have b3 := bset b2 3 (.int .u32 sha0.d)
  have d3 := d2.setCell (p := ⟨g, 3, none⟩) (.inl rfl) (.int .u32 sha0.d)
  have b4 := bset b3 4 (.int .u32 sha0.e)
  have d4 := d3.setCell (p := ⟨g, 4, none⟩) (.inl rfl) (.int .u32 sha0.e)
  have b5 := bset b4 5 (.int .u32 sha0.f)
  have d5 := d4.setCell (p := ⟨g, 5, none⟩) (.inl rfl) (.int .u32 sha0.f)
  have b6 := bset b5 6 (.int .u32 sha0.g)
  have d6 := d5.setCell (p := ⟨g, 6, none⟩) (.inl rfl) (.int .u32 sha0.g)
  have b7 := bset b6 7 (.int .u32 sha0.h)
  have d7 := d6.setCell (p := ⟨g, 7, none⟩) (.inl rfl) (.int .u32 sha0.h)
  have b8 := bset b7 72 (.int .i64 0)
  have d8 := d7.setCell (p := ⟨g, 72, none⟩) (.inl rfl) (.int .i64 0)
  have b9 := bset b8 73 (.int .u64 0)
  have d9 := d8.setCell (p := ⟨g, 73, none⟩) (.inl rfl) (.int .u64 0)
  exact bodyPost_end (v := .tuple #[]) (by kernel_rfl) rfl ⟨rfl, b9, d9⟩
/-- A digest's cells: the state, the first nx bytes that wait, the length. -/
structure Dig (cs : Array Value) (s : St8) (x : Nat → UInt8) (nx len : Nat) : Prop where
  sz : cs.size = 75
  h8 : Has8 cs s
  xs : ∀ j, j < nx → cs[8 + j]? = some (.int .u8 ((x j).toNat : Int))
  nx : cs[72]? = some (.int .i64 (nx : Int))
  len : cs[73]? = some (.int .u64 (len : Int))
  no : cs[74]? = some (.bool false)
  one : ∀ u ∈ cs, u.oneCell' = true
theorem one_of_all {cs : Array Value} (h : cs.all (·.oneCell') = true) : ∀ u ∈ cs, u.oneCell' = true := Array.all_eq_true_iff_forall_mem.1 h
theorem dig_reset : Dig (reset Tryz.zeroCells235) sha0 (fun _ => 0) 0 0 :=
  ⟨by kernel_rfl, ⟨by kernel_rfl, by kernel_rfl, by kernel_rfl, by kernel_rfl, by kernel_rfl, by kernel_rfl, by kernel_rfl, by kernel_rfl⟩, fun j hj => by omega, by kernel_rfl, by kernel_rfl, by kernel_rfl, one_of_all (by kernel_rfl)⟩
set_option maxHeartbeats 1000000 in
set_option maxRecDepth 100000 in
theorem new_any (w : World) : Calls Tryz.prog 97 #[] w fun e w' => e = .returned (.pointer (some ⟨w.heap.size, 0, none⟩)) ∧ w'.heap[w.heap.size]? = some (.cells (reset Tryz.zeroCells235) 235 (0, 0)) ∧ Chg w w' (fun _ => False) := by
  go_enter Tryz.func97, Tryz.ntmps97
  go_wp2_with fail
  refine (reset_any w.heap.size Tryz.zeroCells235 _ (by kernel_rfl) (by kernel_rfl) (heap_alloc_new w _)).mono ?_
  rintro e w1 ⟨rfl, hb1, hc1⟩
  have hc : Chg w w1 (fun _ => False) := ((Chg.refl w (fun _ => False)).alloc _).trans hc1 (fun i hi e => by omega)
  clear hc1
  go_wp2
  go_ret
  exact ⟨rfl, hb1, hc⟩
end Go.Proofs.YtgnmgkpfgmpdfaaGreatDoor
end

/- sha256's Write: facts outside the walk. -/
section
namespace Go.Proofs.YtgnmgkpfgmpdfaaGreatDoor
open Go.RowKit

theorem andNot63 (n : Nat) (h : n < 9223372036854775808) : bits .andNot .i64 (n : Int) 63 = ((64 * (n / 64) : Nat) : Int) := by
  show IntKind.i64.wrap ((BitVec.ofInt 64 (n : Int) &&& ~~~BitVec.ofInt 64 ((63 : Nat) : Int)).toNat : Int) = _
  rw [BitVec.toNat_and, BitVec.toNat_not, ofInt_u64 n (by omega), ofInt_u64 63 (by omega)]
  have e : 2 ^ 64 - 1 - 63 = 18446744073709551552 := by decide
  rw [e, nat_hi64_6, Nat.mod_eq_of_lt (by omega), Nat.mul_comm]
  exact Lib.wrap_i64_small _ (by omega)
theorem setRow_chg (w : World) (g : Nat) (cs : Array Value) : Chg w (w.setRow g cs) (fun i => i = g) :=
  ⟨rfl, rfl, rfl, by simp [World.setRow], fun k _ hk => setRow_other w g k cs hk⟩
theorem underlying24 : Tryz.prog.underlying 24 = some (.slice 5) := by kernel_rfl
theorem size5 : (Tryz.prog.info? 5).map (·.size) = some 1 := by kernel_rfl
theorem addr_add (b o j : Nat) : (⟨b, o, none⟩ : Addr).add j = ⟨b, o + j, none⟩ := by unfold Addr.add; split <;> simp_all
/-- Bytes as cells. -/
def bytesAt (d : Nat → UInt8) (o n : Nat) : List Value := (List.range n).map fun i => .int .u8 ((d (o + i)).toNat : Int)
theorem bytesAt_length (d : Nat → UInt8) (o n : Nat) : (bytesAt d o n).length = n := by simp [bytesAt]
theorem bytesAt_get {d : Nat → UInt8} {o n j : Nat} {v : Value} (h : (bytesAt d o n)[j]? = some v) : j < n ∧ v = .int .u8 ((d (o + j)).toNat : Int) := by
  have hj : j < n := by have := (List.getElem?_eq_some_iff.1 h).1; rwa [bytesAt_length] at this
  simp [bytesAt, hj] at h
  exact ⟨hj, h.symm⟩
theorem bytesAt_one {d : Nat → UInt8} {o n : Nat} : ∀ v ∈ bytesAt d o n, v.oneCell' = true := by
  intro v hv
  simp [bytesAt] at hv
  obtain ⟨i, _, rfl⟩ := hv
  rfl
theorem block_any (g b off n c : Nat) (s : St8) (d : Nat → UInt8) (cs : Array Value) (w : World) (hnc : n ≤ c) (hc : c ≤ 9223372036854775807) (hdat : ∀ j, j < n → w.cell? ⟨b, off + j, none⟩ = some (.int .u8 ((d j).toNat : Int)))
    (hb : b < w.heap.size) (hK : ∀ j, j < 64 → w.cell? ⟨4, j, none⟩ = some (.int .u32 (Kc.getD j 0))) (hg : w.heap[g]? = some (.cells cs 235 (0, 0))) (hs : Has8 cs s) :
    Calls Tryz.prog 115 #[.pointer (some ⟨g, 0, none⟩), .slice (some ⟨b, off, none⟩) n c] w fun e w' => e = .returned (.tuple #[]) ∧ w'.heap[g]? = some (.cells (put8 cs (shaN d s (n / 64))) 235 (0, 0)) ∧ Chg w w' (fun i => i = g) := by
  have HD := Lib.hid hdat
  have HK := Lib.hid hK
  have HG := Lib.hid hg
  have HS := Lib.hid hs
  clear hdat hK hg hs
  go_enter Tryz.func115, Tryz.ntmps115
  go_wp2_with fail
  refine (blockG g b off n c s d cs w hnc hc HD.out hb HK.out HG.out HS.out).mono ?_
  rintro e w1 ⟨rfl, h1, h2⟩
  have H1 := Lib.hid h1
  have H2 := Lib.hid h2
  clear h1 h2
  go_wp2
  exact bodyPost_end (v := .tuple #[]) (by kernel_rfl) rfl ⟨rfl, H1.out, H2.out⟩
/-- Cells laid over a row from place o on. -/
def spl (cs : Array Value) (o : Nat) (l : List Value) : Array Value := (cs.toList.take o ++ (l ++ cs.toList.drop (o + l.length))).toArray
theorem spl_size (cs : Array Value) (o : Nat) (l : List Value) (h : o + l.length ≤ cs.size) : (spl cs o l).size = cs.size := by simp [spl]; omega
theorem spl_in (cs : Array Value) (o : Nat) (l : List Value) (h : o + l.length ≤ cs.size) {j : Nat} (hj : j < l.length) : (spl cs o l)[o + j]? = l[j]? := by
  simp only [spl, List.getElem?_toArray]
  rw [List.getElem?_append_right (by simp; omega), List.getElem?_append_left (by simp; omega)]
  congr 1
  simp
  omega
theorem spl_out (cs : Array Value) (o : Nat) (l : List Value) (h : o + l.length ≤ cs.size) {j : Nat} (hj : j < o ∨ o + l.length ≤ j) : (spl cs o l)[j]? = cs[j]? := by
  simp only [spl, List.getElem?_toArray]
  rcases hj with hj | hj
  · rw [List.getElem?_append_left (by simp; omega), List.getElem?_take_of_lt hj]
    simp
  · rw [List.getElem?_append_right (by simp; omega), List.getElem?_append_right (by simp; omega), List.getElem?_drop]
    simp
    congr 1
    omega
theorem one_iff {cs : Array Value} : (∀ u ∈ cs, u.oneCell' = true) ↔ ∀ (i : Nat) (u : Value), cs[i]? = some u → u.oneCell' = true := by
  constructor
  · intro h i u hu
    exact h u (Array.mem_of_getElem? hu)
  · intro h u hu
    obtain ⟨i, hi⟩ := Array.getElem?_of_mem hu
    exact h i u hi
theorem one_set {cs : Array Value} (h : ∀ u ∈ cs, u.oneCell' = true) (i : Nat) {v : Value} (hv : v.oneCell' = true) : ∀ u ∈ cs.setIfInBounds i v, u.oneCell' = true := by
  intro u hu
  rcases Array.mem_or_eq_of_mem_setIfInBounds hu with h1 | rfl
  · exact h u h1
  · exact hv
theorem one_spl {cs : Array Value} (h : ∀ u ∈ cs, u.oneCell' = true) (o : Nat) {l : List Value} (hl : ∀ v ∈ l, v.oneCell' = true) : ∀ u ∈ spl cs o l, u.oneCell' = true := by
  intro u hu
  simp only [spl, List.mem_toArray, List.mem_append] at hu
  rcases hu with hu | hu | hu
  · exact h u (by simpa using List.mem_of_mem_take hu)
  · exact hl u hu
  · exact h u (by simpa using List.mem_of_mem_drop hu)
theorem one_put8 {cs : Array Value} (h : ∀ u ∈ cs, u.oneCell' = true) (s : St8) : ∀ u ∈ put8 cs s, u.oneCell' = true :=
  one_set (one_set (one_set (one_set (one_set (one_set (one_set (one_set h 0 rfl) 1 rfl) 2 rfl) 3 rfl) 4 rfl) 5 rfl) 6 rfl) 7 rfl
theorem set_same (cs : Array Value) {i : Nat} (h : i < cs.size) (v : Value) : (cs.setIfInBounds i v)[i]? = some v := by simp [h]
theorem set_ne (cs : Array Value) {i j : Nat} (h : i ≠ j) (v : Value) : (cs.setIfInBounds i v)[j]? = cs[j]? := Array.getElem?_setIfInBounds_ne h
theorem put8_size (cs : Array Value) (s : St8) : (put8 cs s).size = cs.size := by simp [put8]
theorem put8_out (cs : Array Value) (s : St8) {j : Nat} (hj : 8 ≤ j) : (put8 cs s)[j]? = cs[j]? := by
  unfold put8
  rw [Array.getElem?_setIfInBounds_ne (by omega), Array.getElem?_setIfInBounds_ne (by omega), Array.getElem?_setIfInBounds_ne (by omega), Array.getElem?_setIfInBounds_ne (by omega),
    Array.getElem?_setIfInBounds_ne (by omega), Array.getElem?_setIfInBounds_ne (by omega), Array.getElem?_setIfInBounds_ne (by omega), Array.getElem?_setIfInBounds_ne (by omega)]
theorem put8_has (cs : Array Value) (s : St8) (h : 8 ≤ cs.size) : Has8 (put8 cs s) s := by
  unfold put8
  constructor
  · rw [set_ne _ (by omega), set_ne _ (by omega), set_ne _ (by omega), set_ne _ (by omega), set_ne _ (by omega), set_ne _ (by omega), set_ne _ (by omega)]; exact set_same _ (by omega) _
  · rw [set_ne _ (by omega), set_ne _ (by omega), set_ne _ (by omega), set_ne _ (by omega), set_ne _ (by omega), set_ne _ (by omega)]; exact set_same _ (by simp only [Array.size_setIfInBounds]; omega) _
  · rw [set_ne _ (by omega), set_ne _ (by omega), set_ne _ (by omega), set_ne _ (by omega), set_ne _ (by omega)]; exact set_same _ (by simp only [Array.size_setIfInBounds]; omega) _
  · rw [set_ne _ (by omega), set_ne _ (by omega), set_ne _ (by omega), set_ne _ (by omega)]; exact set_same _ (by simp only [Array.size_setIfInBounds]; omega) _
  · rw [set_ne _ (by omega), set_ne _ (by omega), set_ne _ (by omega)]; exact set_same _ (by simp only [Array.size_setIfInBounds]; omega) _
  · rw [set_ne _ (by omega), set_ne _ (by omega)]; exact set_same _ (by simp only [Array.size_setIfInBounds]; omega) _
  · rw [set_ne _ (by omega)]; exact set_same _ (by simp only [Array.size_setIfInBounds]; omega) _
  · exact set_same _ (by simp only [Array.size_setIfInBounds]; omega) _
theorem Has8.congr {cs cs' : Array Value} {s : St8} (h : Has8 cs s) (he : ∀ j, j < 8 → cs'[j]? = cs[j]?) : Has8 cs' s :=
  ⟨(he 0 (by omega)).trans h.h0, (he 1 (by omega)).trans h.h1, (he 2 (by omega)).trans h.h2, (he 3 (by omega)).trans h.h3, (he 4 (by omega)).trans h.h4, (he 5 (by omega)).trans h.h5, (he 6 (by omega)).trans h.h6, (he 7 (by omega)).trans h.h7⟩
theorem Has8.set {cs : Array Value} {s : St8} (h : Has8 cs s) {i : Nat} (hi : 8 ≤ i) (v : Value) : Has8 (cs.setIfInBounds i v) s :=
  h.congr (fun j hj => Array.getElem?_setIfInBounds_ne (by omega))
/-- The digest behind a Write whose last bytes (k of them) wait. -/
theorem dig_tail {cs : Array Value} {s : St8} {x : Nat → UInt8} {nx len : Nat} (h : Dig cs s x nx len) (s' : St8) (d : Nat → UInt8) (o k len' : Nat) (hk : k ≤ 64) :
    Dig ((spl (put8 (cs.setIfInBounds 73 (.int .u64 (len' : Int))) s') 8 (bytesAt d o k)).setIfInBounds 72 (.int .i64 (k : Int))) s' (fun i => d (o + i)) k len' := by
  have hz : (put8 (cs.setIfInBounds 73 (.int .u64 (len' : Int))) s').size = 75 := by rw [put8_size]; simp [h.sz]
  have hl := bytesAt_length d o k
  have hfit : 8 + (bytesAt d o k).length ≤ (put8 (cs.setIfInBounds 73 (.int .u64 (len' : Int))) s').size := by omega
  have hs2 := (spl_size _ 8 _ hfit).trans hz
  refine ⟨by simp [hs2], ?_, fun j hj => ?_, ?_, ?_, ?_, ?_⟩
  · refine (put8_has (cs.setIfInBounds 73 (.int .u64 (len' : Int))) s' (by simp [h.sz])).congr (fun j hj => ?_)
    rw [set_ne _ (by omega), spl_out _ _ _ hfit (.inl hj)]
  · rw [set_ne _ (by omega), spl_in _ _ _ hfit (by omega)]
    simp [bytesAt, hj]
  · exact set_same _ (by rw [hs2]; omega) _
  · rw [set_ne _ (by omega), spl_out _ _ _ hfit (.inr (by omega)), put8_out _ _ (by omega)]
    exact set_same _ (by rw [h.sz]; omega) _
  · rw [set_ne _ (by omega), spl_out _ _ _ hfit (.inr (by omega)), put8_out _ _ (by omega), set_ne _ (by omega)]
    exact h.no
  · exact one_set (one_spl (one_put8 (one_set h.one 73 rfl) s') 8 bytesAt_one) 72 rfl
theorem dig_tail0 {cs : Array Value} {s : St8} {x : Nat → UInt8} {nx len : Nat} (h : Dig cs s x nx len) (d : Nat → UInt8) (o k len' : Nat) (hk : k ≤ 64) :
    Dig ((spl (cs.setIfInBounds 73 (.int .u64 (len' : Int))) 8 (bytesAt d o k)).setIfInBounds 72 (.int .i64 (k : Int))) s (fun i => d (o + i)) k len' := by
  have hz : (cs.setIfInBounds 73 (.int .u64 (len' : Int))).size = 75 := by simp [h.sz]
  have hl := bytesAt_length d o k
  have hfit : 8 + (bytesAt d o k).length ≤ (cs.setIfInBounds 73 (.int .u64 (len' : Int))).size := by omega
  have hs2 := (spl_size _ 8 _ hfit).trans hz
  refine ⟨by simp [hs2], ?_, fun j hj => ?_, ?_, ?_, ?_, ?_⟩
  · refine (h.h8.set (i := 73) (by omega) (.int .u64 (len' : Int))).congr (fun j hj => ?_)
    rw [set_ne _ (by omega), spl_out _ _ _ hfit (.inl hj)]
  · rw [set_ne _ (by omega), spl_in _ _ _ hfit (by omega)]
    simp [bytesAt, hj]
  · exact set_same _ (by rw [hs2]; omega) _
  · rw [set_ne _ (by omega), spl_out _ _ _ hfit (.inr (by omega))]
    exact set_same _ (by rw [h.sz]; omega) _
  · rw [set_ne _ (by omega), spl_out _ _ _ hfit (.inr (by omega)), set_ne _ (by omega)]
    exact h.no
  · exact one_set (one_spl (one_set h.one 73 rfl) 8 bytesAt_one) 72 rfl
/-- .. where none waits. -/
theorem dig_full {cs : Array Value} {s : St8} {x : Nat → UInt8} {len : Nat} (h : Dig cs s x 0 len) (s' : St8) (y : Nat → UInt8) (len' : Nat) :
    Dig (put8 (cs.setIfInBounds 73 (.int .u64 (len' : Int))) s') s' y 0 len' := by
  refine ⟨by rw [put8_size]; simp [h.sz], put8_has _ s' (by simp [h.sz]), fun j hj => by omega, ?_, ?_, ?_, one_put8 (one_set h.one 73 rfl) s'⟩
  · rw [put8_out _ _ (by omega), set_ne _ (by omega)]
    exact h.nx
  · rw [put8_out _ _ (by omega)]
    exact set_same _ (by have := h.sz; omega) _
  · rw [put8_out _ _ (by omega), set_ne _ (by omega)]
    exact h.no
end Go.Proofs.YtgnmgkpfgmpdfaaGreatDoor
end

/- Rows of bytes of the call's own: append, as a law at this program's byte slices. -/
section
namespace Go.Proofs.YtgnmgkpfgmpdfaaGreatDoor
open Go.RowKit

theorem info5 : (Tryz.prog.info? 5).map (fun i => (i.zero, i.size, i.bytes)) = some (some (.int .u8 0), 1, 1) := by kernel_rfl
section
variable {ops : Array Oper} {rest : List Oper} {o : Oper} {a : Act} {w : World} {Q : Exit → Act → World → Prop}
theorem app_bytes (hgd : o.guard = none) (s x : Operand) (ho : o.op = .call { callee := .builtin .append, args := #[s, x], argTypes := #[24, 24] })
    (base : Nat) (v : Value) (n : Nat) (xs : List Value) (hs : a.eval s = v) (hown : w.ownsRow base 5 1 v n xs)
    (b off m c : Nat) (news : List Value) (hx : a.eval x = .slice (some ⟨b, off, none⟩) m c) (hl : news.length = m) (hnews : ∀ j u, news[j]? = some u → w.cell? ⟨b, off + j, none⟩ = some u) (h1 : ∀ u ∈ news, u.oneCell' = true)
    (h63 : n + m ≤ 100000000) (hbase : base ≤ w.heap.size)
    (h : ∀ v' w', w'.ownsRow base 5 1 v' (n + m) (xs ++ news) → w.grownBy w' v.ownBlock → (v' = .slice none 0 0 ↔ v = .slice none 0 0 ∧ m = 0) → wpList Tryz.prog ops Q rest (a.put o.dst v') w') : wpList Tryz.prog ops Q (o :: rest) a w := by
  obtain ⟨i, hi, hz0, hz1, hz2⟩ := info_parts info5
  exact wpList_append_own w hgd s x 24 ho base 5 i (.int .u8 0) 1 1 underlying24 hi hz0 hz1 hz2 rfl (by decide) v n xs hs hown ⟨b, off, none⟩ m c news hx (by omega) (fun j u hj => by rw [addr_add]; exact hnews j u hj) h1
    (by unfold maxLen; omega) (by omega) hbase h
end
/-- A row of one's own: where it lies and what it holds. -/
theorem own_cells {w : World} {base n : Nat} {v : Value} {xs : List Value} (h : w.ownsRow base 5 1 v n xs) (hn : 0 < n) :
    ∃ g cap, v = .slice (some ⟨g, 0, none⟩) n cap ∧ base ≤ g ∧ g < w.heap.size ∧ n ≤ cap ∧ cap ≤ maxLen ∧ ∀ j u, xs[j]? = some u → w.cell? ⟨g, j, none⟩ = some u := by
  obtain ⟨hl, h2⟩ := h
  rcases h2 with ⟨_, h0⟩ | ⟨g, cap, cur, rfl, hg, hh, hc, hm, hs, ht⟩
  · omega
  · refine ⟨g, cap, rfl, hg, blt hh, hc, hm, fun j u hu => ?_⟩
    have hj : j < n := by have := (List.getElem?_eq_some_iff.1 hu).1; omega
    rw [bcell hh]
    rw [← ht, List.getElem?_take_of_lt (by omega)] at hu
    simpa using hu
theorem grown_chg {w w' : World} {row : Option Nat} (h : w.grownBy w' row) : Chg w w' (fun i => some i = row) := ⟨h.os, h.tape, h.output, h.size, fun k hk hn => h.block k hk hn⟩
theorem setRow_alloc (w : World) (c c' : Array Value) (t : TypeId) : (w.alloc (.cells c t)).setRow w.heap.size c' = w.alloc (.cells c' t) := by
  have e : (w.heap.push (.cells c t)).modify w.heap.size (fun | .cells _ elem frozen => .cells c' elem frozen | o => o) = w.heap.push (.cells c' t) := by
    apply Array.ext
    · simp
    · intro i h1 h2
      rw [Array.getElem_modify, Array.getElem_push, Array.getElem_push]
      by_cases hi : w.heap.size = i
      · subst hi; simp
      · have hlt : i < w.heap.size := by simp at h2; omega
        simp [hi, hlt]
  unfold World.setRow
  show ({ w with heap := (w.heap.push (.cells c t)).modify w.heap.size _ } : World) = { w with heap := w.heap.push (.cells c' t) }
  rw [← e]
  congr 1
end Go.Proofs.YtgnmgkpfgmpdfaaGreatDoor
end

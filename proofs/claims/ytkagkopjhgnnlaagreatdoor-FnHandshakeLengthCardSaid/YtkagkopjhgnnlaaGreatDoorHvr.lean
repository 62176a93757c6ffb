/- (*MessageHelloVerifyRequest).Unmarshal of a whole message.  -/
import Derived.Test.YtkagkopjhgnnlaaGreatDoorUnm2
import Derived.Deep.RegionLaw
import Derived.Laws.CopyOwn
import Derived.Laws.MakeOwn
namespace Go.Proofs.YtkagkopjhgnnlaaGreatDoor
open Go.RowKit

theorem make_bytes (k : Nat) (hk : k ≤ 255) (W : World) : (Instr.makeSlice 30 (.int .i64 k) (.int .i64 k)).run Tryz.prog W = .ok (.slice (some ⟨W.heap.size, 0, none⟩) k k) (W.alloc (.cells (madeCells #[.int .u8 0] k) 5)) := by
  cases hi : Tryz.prog.info? 5 with
  | none => exact absurd (show (Tryz.prog.info? 5).isSome = true by kernel_rfl) (by rw [hi]; decide)
  | some i =>
    have hz : (Tryz.prog.info? 5).map (fun i => (i.zero, i.size, i.bytes)) = some (some (.int .u8 0), 1, 1) := by kernel_rfl
    rw [hi] at hz
    simp only [Option.map_some, Option.some.injEq, Prod.mk.injEq] at hz
    have h := run_makeSlice (P := Tryz.prog) W 30 5 i (.int .u8 0) Tryz.underlying30 hi hz.1 .i64 .i64 k k (by omega) (by omega) (by rw [hz.2.1]; omega) (by rw [hz.2.2]; omega) (by omega)
    rw [hz.2.1] at h
    simp only [Int.toNat_natCast, Nat.mul_one] at h
    exact h

theorem hvr_world (q : Nat) (v0 v1 v2 z0 z1 z2 : Value) (o : Array Value) (w : World) (hq : w.heap[q]? = some (.cells #[z0, z1, z2] 70 (0, 0))) :
    ∃ X : World, Hid (X = (((w.setCell ⟨q, 0, none⟩ v0).setCell ⟨q, 1, none⟩ v1).setCell ⟨q, 2, none⟩ v2).alloc (.cells o 5)) ∧ Hid (X.heap[q]? = some (.cells #[v0, v1, v2] 70 (0, 0))) ∧
      Hid (X.heap[w.heap.size]? = some (.cells o 5 (0, 0))) ∧ Hid (Chg w X (fun i => i = q)) := by
  have h := bset (bset (bset hq 0 v0) 1 v1) 2 v2
  have sz : (((w.setCell ⟨q, 0, none⟩ v0).setCell ⟨q, 1, none⟩ v1).setCell ⟨q, 2, none⟩ v2).heap.size = w.heap.size := by simp [World.setCell]
  have h2 := heap_alloc_new (((w.setCell ⟨q, 0, none⟩ v0).setCell ⟨q, 1, none⟩ v1).setCell ⟨q, 2, none⟩ v2) (.cells o 5)
  rw [sz] at h2
  have c0 : Chg w (w.setCell ⟨q, 0, none⟩ v0) (fun i => i = q) := Chg.setCell (S := fun i => i = q) (Chg.refl w _) (p := ⟨q, 0, none⟩) (Or.inl rfl) v0
  have c1 : Chg w ((w.setCell ⟨q, 0, none⟩ v0).setCell ⟨q, 1, none⟩ v1) (fun i => i = q) := Chg.setCell (S := fun i => i = q) c0 (p := ⟨q, 1, none⟩) (Or.inl rfl) v1
  have c2 : Chg w (((w.setCell ⟨q, 0, none⟩ v0).setCell ⟨q, 1, none⟩ v1).setCell ⟨q, 2, none⟩ v2) (fun i => i = q) := Chg.setCell (S := fun i => i = q) c1 (p := ⟨q, 2, none⟩) (Or.inl rfl) v2
  have h3 : (((w.setCell ⟨q, 0, none⟩ v0).setCell ⟨q, 1, none⟩ v1).setCell ⟨q, 2, none⟩ v2).heap[q]? = some (.cells #[v0, v1, v2] 70 (0, 0)) := by simpa using h
  have h4 := bblk ((Below.refl _ _).alloc (Nat.le_refl _) (.cells o 5)) h3
  have c3 := c2.alloc (.cells o 5)
  generalize ((w.setCell ⟨q, 0, none⟩ v0).setCell ⟨q, 1, none⟩ v1).setCell ⟨q, 2, none⟩ v2 = Y at *
  exact ⟨Y.alloc (.cells o 5), rfl, h4, h2, c3⟩

set_option maxHeartbeats 4000000 in
set_option maxRecDepth 100000 in
theorem hvr_unm (q b off k c : Nat) (d : Nat → UInt8) (w : World) (hq : w.heap[q]? = some (.cells #[.int .u8 0, .int .u8 0, .slice none 0 0] 70 (0, 0)))
    (hd : ∀ j, j < 3 + k → w.cell? ⟨b, off + j, none⟩ = some (.int .u8 (d j).toNat)) (h2 : (d 2).toNat = k) (hk : k ≤ 255) (hne : b ≠ q) (hc : 3 + k ≤ c) :
    Calls Tryz.prog 82 #[.pointer (some ⟨q, 0, none⟩), .slice (some ⟨b, off, none⟩) (3 + k) c] w fun e w' => e = .returned .nilIface ∧ ∃ z, w.heap.size ≤ z ∧
      w'.heap[q]? = some (.cells #[.int .u8 (d 0).toNat, .int .u8 (d 1).toNat, .slice (some ⟨z, 0, none⟩) k k] 70 (0, 0)) ∧
      w'.heap[z]? = some (.cells ((List.range k).map fun j => Value.int .u8 (d (3 + j)).toNat).toArray 5 (0, 0)) ∧ Chg w w' (fun i => i = q) := by
  have hm := make_bytes k hk
  have d0 := hd 0 (by omega)
  have d1 := hd 1 (by omega)
  have d2 := hd 2 (by omega)
  rw [h2] at d2
  rw [Nat.add_zero] at d0
  have q0 := (bcell hq 0).trans rfl
  have q1 := (bcell hq 1).trans rfl
  have q2 := (bcell hq 2).trans rfl
  have f0 := bfrozen hq 0
  have f1 := bfrozen hq 1
  have f2 := bfrozen hq 2
  have hql := blt hq
  have hqn : ¬ q = w.heap.size := by omega
  have hqn' : ¬ w.heap.size = q := by omega
  have HD := Lib.hid hd
  have HQ := Lib.hid hq
  clear hd hq
  go_enter Tryz.func82, Tryz.ntmps82
  go_wp2_with fail
  obtain ⟨X, hX, XQ, XZ, XC⟩ := hvr_world q (.int .u8 (d 0).toNat) (.int .u8 (d 1).toNat) (.slice (some ⟨w.heap.size, 0, none⟩) k k) _ _ _ (madeCells #[.int .u8 0] k) w HQ.out
  rw [← hX.out]
  clear hX q0 q1 q2 f0 f1 f2
  have xq := XQ.out
  have q2 : X.drew.cell? ⟨q, 2, none⟩ = _ := (bcell xq 2).trans rfl
  clear xq
  have wr : IntKind.i64.wrap (3 + (k : Int)) = 3 + k := by rw [IntKind.wrap_i64]; omega
  have wA : (0 : Int) ≤ 3 + k := by omega
  have wB : (3 : Int) + k ≤ c := by omega
  have wC : (3 : Int) ≤ max (3 + (k : Int)) 0 := by omega
  have wD : ((3 : Int) + k).toNat - 3 = k := by omega
  have hsrc : ∀ j v, ((List.range k).map fun j => Value.int .u8 (d (3 + j)).toNat)[j]? = some v → X.drew.cell? (Addr.add ⟨b, off + 3, none⟩ j) = some v := by
    intro j v hj
    have hjk : j < k := by
      have := (List.getElem?_eq_some_iff.1 hj).1
      simpa using this
    have hv : v = Value.int .u8 (d (3 + j)).toNat := by
      rw [List.getElem?_map, List.getElem?_range hjk] at hj
      simpa using hj.symm
    have h := XC.out.cell (HD.out (3 + j) (by omega)) hne
    rw [show Addr.add ⟨b, off + 3, none⟩ j = ⟨b, off + (3 + j), none⟩ by cases j <;> simp [Addr.add] <;> omega, hv]
    exact h
  have fin : ∀ w4 : World, Hid (w4.heap[w.heap.size]? = some (.cells (splice (madeCells #[.int .u8 0] k).toList 0 ((List.range k).map fun j => Value.int .u8 (d (3 + j)).toNat)).toArray 5 (0, 0))) → Below w.heap.size X.drew w4 →
      w.heap.size ≤ w.heap.size ∧ w4.heap[q]? = some (.cells #[.int .u8 (d 0).toNat, .int .u8 (d 1).toNat, .slice (some ⟨w.heap.size, 0, none⟩) k k] 70 (0, 0)) ∧
      w4.heap[w.heap.size]? = some (.cells ((List.range k).map fun j => Value.int .u8 (d (3 + j)).toNat).toArray 5 (0, 0)) ∧ Chg w w4 (fun i => i = q) := by
    intro w4 hg hb
    have hs : splice (madeCells #[.int .u8 0] k).toList 0 ((List.range k).map fun j => Value.int .u8 (d (3 + j)).toNat) = (List.range k).map fun j => Value.int .u8 (d (3 + j)).toNat := by
      simp [splice, size_madeCells]
    have hg1 := hg.out
    rw [hs] at hg1
    refine ⟨Nat.le_refl _, (hb.block q hql).trans XQ.out, hg1, XC.out.trans (S1 := fun i => w.heap.size ≤ i) ⟨hb.os, hb.tape, hb.output, hb.size, fun i _ hn => hb.block i (by omega)⟩ (fun i hi h => by omega)⟩
  have HF := Lib.hid fin
  have HS := Lib.hid hsrc
  clear fin hsrc
  by_cases h3 : c = 3
  · subst h3
    obtain rfl : k = 0 := by omega
    have wr3 : IntKind.i64.wrap 3 = 3 := by rw [IntKind.wrap_i64]; omega
    clear wr wA wB wC wD
    go_region_law (refine step_copy_splice rfl (.tmp 42) (.tmp 46) 30 30 rfl 5 Tryz.underlying30 (by kernel_rfl) (some ⟨w.heap.size, 0, none⟩) _ 0 0 0 _ rfl rfl w.heap.size 0 (madeCells #[.int .u8 0] 0).toList 5 XZ.out ((List.range 0).map fun j => Value.int .u8 (d (3 + j)).toNat) (by simp) (fun hp => absurd hp (by simp)) (by simp [size_madeCells]) (by simp [Value.oneCell']) w.heap.size X.drew (Below.mono (Below.refl _ _) XC.out.size) (Nat.le_refl _) ?_; intro w4 hg4 hb4)
    all_goals
      go_wp2_with fail
      go_ret
      exact ⟨rfl, _, HF.out _ hg4 hb4⟩
  · go_region_law (refine step_copy_splice rfl (.tmp 42) (.tmp 46) 30 30 rfl 5 Tryz.underlying30 (by kernel_rfl) (some ⟨w.heap.size, 0, none⟩) _ k k k _ rfl rfl w.heap.size 0 (madeCells #[.int .u8 0] k).toList 5 XZ.out ((List.range k).map fun j => Value.int .u8 (d (3 + j)).toNat) (by simp) (fun _ => ⟨rfl, _, rfl, HS.out⟩) (by simp [size_madeCells]) (by simp [Value.oneCell']) w.heap.size X.drew (Below.mono (Below.refl _ _) XC.out.size) (Nat.le_refl _) ?_; intro w4 hg4 hb4)
    all_goals
      go_wp2_with fail
      go_ret
      exact ⟨rfl, _, HF.out _ hg4 hb4⟩
end Go.Proofs.YtkagkopjhgnnlaaGreatDoor

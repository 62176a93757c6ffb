/- impl.messageData of a HelloVerifyRequest. -/
import Derived.Test.YtkagkopjhgnnlaaGreatDoorDataHvr
namespace Go.Proofs.YtkagkopjhgnnlaaGreatDoor
open Go.RowKit

set_option maxHeartbeats 1000000 in
set_option maxRecDepth 100000 in
theorem msg_hvr (q z : Nat) (a0 a1 : Int) (bs : List UInt8) (s : ByteArray) (w : World) (hq : w.heap[q]? = some (.cells #[.int .u8 a0, .int .u8 a1, .slice (some ⟨z, 0, none⟩) bs.length bs.length] 70 (0, 0)))
    (hz : w.heap[z]? = some (.cells (rowb bs) 5 (0, 0))) (hs : s.data.toList = bs) :
    Calls Tryz.prog 11 #[.iface 68 (.pointer (some ⟨q, 0, none⟩))] w fun e w' => e = .returned (.agg (m3 a0 a1 s)) ∧ Below w.heap.size w w' := by
  have n58 : ∀ W : World, (Instr.typeAssert (.iface 68 (.pointer (some ⟨q, 0, none⟩))) 48 58 true).run Tryz.prog W = .ok (.tuple #[.pointer none, .bool false]) W := fun _ => by kernel_rfl
  have n71 : ∀ W : World, (Instr.typeAssert (.iface 68 (.pointer (some ⟨q, 0, none⟩))) 48 71 true).run Tryz.prog W = .ok (.tuple #[.pointer none, .bool false]) W := fun _ => by kernel_rfl
  have n110 : ∀ W : World, (Instr.typeAssert (.iface 68 (.pointer (some ⟨q, 0, none⟩))) 48 110 true).run Tryz.prog W = .ok (.tuple #[.pointer none, .bool false]) W := fun _ => by kernel_rfl
  have n118 : ∀ W : World, (Instr.typeAssert (.iface 68 (.pointer (some ⟨q, 0, none⟩))) 48 118 true).run Tryz.prog W = .ok (.tuple #[.pointer none, .bool false]) W := fun _ => by kernel_rfl
  have y68 : ∀ W : World, (Instr.typeAssert (.iface 68 (.pointer (some ⟨q, 0, none⟩))) 48 68 true).run Tryz.prog W = .ok (.tuple #[.pointer (some ⟨q, 0, none⟩), .bool true]) W := fun _ => by kernel_rfl
  have hq1 := bblk ((Below.refl _ _).alloc (Nat.le_refl _) (.cells mz 36)) hq
  have hz1 := bblk ((Below.refl _ _).alloc (Nat.le_refl _) (.cells mz 36)) hz
  have HQ := Lib.hid hq1
  have HZ := Lib.hid hz1
  clear hq hz hq1 hz1
  go_enter Tryz.func11, Tryz.ntmps11
  go_wp2_with fail
  refine (data_hvr q z a0 a1 bs s _ HQ.out HZ.out hs).mono ?_
  rintro e w1 ⟨rfl, hb1⟩
  have hh := bblk hb1 (heap_alloc_new w (.cells mz 36))
  have hz1 : w.heap.size < w1.heap.size := blt hh
  have hbw : Below w.heap.size w w1 := ((Below.refl _ _).alloc (Nat.le_refl _) _).trans (hb1.mono (by simp))
  have n30 := m3_one a0 a1 s
  clear hb1 HQ HZ hs
  go_wp2_with (refine wpList_store_row (o := ⟨none, .store 36 (.tmp 2) (.tmp 168), _, _, _, _⟩) rfl 36 (.tmp 2) (.tmp 168) rfl w.heap.size (m3 a0 a1 s) rfl rfl 36 mz hh (by kernel_rfl) rfl n30 ?_)
  refine bodyPost_ret (results_cell_row rfl _ _ w.heap.size 36 (m3 a0 a1 s) (0, 0) _ rfl (setRow_heap _ _ _ _ _ _ hh) Tryz.underlying36 rfl (by kernel_rfl)) rfl ⟨rfl, ?_⟩
  exact below_setRow hbw (Nat.le_refl _) _
end Go.Proofs.YtkagkopjhgnnlaaGreatDoor

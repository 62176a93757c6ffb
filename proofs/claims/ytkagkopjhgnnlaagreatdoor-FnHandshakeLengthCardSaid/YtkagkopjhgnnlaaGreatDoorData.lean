/- impl.handHeaderData; impl.messageData of a ServerHelloDone. -/
import Derived.Test.YtkagkopjhgnnlaaGreatDoorRead1
namespace Go.Proofs.YtkagkopjhgnnlaaGreatDoor
open Go.RowKit

set_option maxHeartbeats 400000 in
theorem head_data (h0 h1 h2 h3 h4 : Int) (w : World) : Calls Tryz.prog 10 #[.agg #[.int .u8 h0, .int .u32 h1, .int .u16 h2, .int .u32 h3, .int .u32 h4]] w fun e w' => e = .returned (.agg #[.int .u8 h0, .int .u32 h1, .int .u16 h2, .int .u32 h3, .int .u32 h4]) ∧ Below w.heap.size w w' := by
  go_enter Tryz.func10, Tryz.ntmps10
  go_wp2
  refine bodyPost_ret (v := .agg #[.int .u8 h0, .int .u32 h1, .int .u16 h2, .int .u32 h3, .int .u32 h4]) (by simp [results, Tryz.results10, go_sem]) rfl ⟨rfl, ?_⟩
  exact (((Below.refl _ _).alloc (Nat.le_refl _) _).alloc (by simp) _)

/-- A message of type 14 with nothing in it. -/
abbrev m14 : Array Value := #[.int .u8 14, .bool false, .int .u8 0, .int .u8 0, .int .u32 0, .string { data := #[] }, .string { data := #[] }, .string { data := #[] }, .slice none 0 0, .slice none 0 0, .slice none 0 0, .slice none 0 0, .slice none 0 0, .slice none 0 0, .int .u16 0, .int .u16 0, .string { data := #[] }, .string { data := #[] }, .string { data := #[] }, .int .i64 0, .int .u8 0, .int .u16 0, .string { data := #[] }, .string { data := #[] }, .slice none 0 0]
theorem m14_one : m14.all (·.oneCell') = true := by kernel_rfl

set_option maxHeartbeats 400000 in
set_option maxRecDepth 100000 in
theorem data_done (v : Value) (w : World) : Calls Tryz.prog 21 #[v] w fun e w' => e = .returned (.agg m14) ∧ Below w.heap.size w w' := by
  go_enter Tryz.func21, Tryz.ntmps21
  go_wp2_with (refine wpList_store_row (o := ⟨none, .store 36 (.tmp 2) (.tmp 3), _, _, _, _⟩) rfl 36 (.tmp 2) (.tmp 3) rfl w.heap.size m14 rfl rfl 36 mz (heap_alloc_new _ _) (by kernel_rfl) rfl m14_one ?_; rw [setRow_alloc])
  refine bodyPost_ret (results_cell_row rfl _ _ w.heap.size 36 m14 (0, 0) _ rfl (heap_alloc_new _ _) Tryz.underlying36 rfl (by kernel_rfl)) rfl ⟨rfl, ?_⟩
  exact (Below.refl _ _).alloc (Nat.le_refl _) _

set_option maxHeartbeats 1000000 in
set_option maxRecDepth 100000 in
theorem msg_done (a : Addr) (w : World) : Calls Tryz.prog 11 #[.iface 92 (.pointer (some a))] w fun e w' => e = .returned (.agg m14) ∧ Below w.heap.size w w' := by
  have n58 : ∀ W : World, (Instr.typeAssert (.iface 92 (.pointer (some a))) 48 58 true).run Tryz.prog W = .ok (.tuple #[.pointer none, .bool false]) W := fun _ => by kernel_rfl
  have n71 : ∀ W : World, (Instr.typeAssert (.iface 92 (.pointer (some a))) 48 71 true).run Tryz.prog W = .ok (.tuple #[.pointer none, .bool false]) W := fun _ => by kernel_rfl
  have n110 : ∀ W : World, (Instr.typeAssert (.iface 92 (.pointer (some a))) 48 110 true).run Tryz.prog W = .ok (.tuple #[.pointer none, .bool false]) W := fun _ => by kernel_rfl
  have n118 : ∀ W : World, (Instr.typeAssert (.iface 92 (.pointer (some a))) 48 118 true).run Tryz.prog W = .ok (.tuple #[.pointer none, .bool false]) W := fun _ => by kernel_rfl
  have n68 : ∀ W : World, (Instr.typeAssert (.iface 92 (.pointer (some a))) 48 68 true).run Tryz.prog W = .ok (.tuple #[.pointer none, .bool false]) W := fun _ => by kernel_rfl
  have n76 : ∀ W : World, (Instr.typeAssert (.iface 92 (.pointer (some a))) 48 76 true).run Tryz.prog W = .ok (.tuple #[.pointer none, .bool false]) W := fun _ => by kernel_rfl
  have n80 : ∀ W : World, (Instr.typeAssert (.iface 92 (.pointer (some a))) 48 80 true).run Tryz.prog W = .ok (.tuple #[.pointer none, .bool false]) W := fun _ => by kernel_rfl
  have n87 : ∀ W : World, (Instr.typeAssert (.iface 92 (.pointer (some a))) 48 87 true).run Tryz.prog W = .ok (.tuple #[.pointer none, .bool false]) W := fun _ => by kernel_rfl
  have y92 : ∀ W : World, (Instr.typeAssert (.iface 92 (.pointer (some a))) 48 92 true).run Tryz.prog W = .ok (.tuple #[.pointer (some a), .bool true]) W := fun _ => by kernel_rfl
  go_enter Tryz.func11, Tryz.ntmps11
  go_wp2_with fail
  refine (data_done _ _).mono ?_
  rintro e w1 ⟨rfl, hb1⟩
  have hh := bblk hb1 (heap_alloc_new w (.cells mz 36))
  have hz1 : w.heap.size < w1.heap.size := blt hh
  have hbw : Below w.heap.size w w1 := ((Below.refl _ _).alloc (Nat.le_refl _) _).trans (hb1.mono (by simp))
  clear hb1
  go_wp2_with (refine wpList_store_row (o := ⟨none, .store 36 (.tmp 2) (.tmp 188), _, _, _, _⟩) rfl 36 (.tmp 2) (.tmp 188) rfl w.heap.size m14 rfl rfl 36 mz hh (by kernel_rfl) rfl m14_one ?_)
  refine bodyPost_ret (results_cell_row rfl _ _ w.heap.size 36 m14 (0, 0) _ rfl (setRow_heap _ _ _ _ _ _ hh) Tryz.underlying36 rfl (by kernel_rfl)) rfl ⟨rfl, ?_⟩
  exact below_setRow hbw (Nat.le_refl _) _
end Go.Proofs.YtkagkopjhgnnlaaGreatDoor

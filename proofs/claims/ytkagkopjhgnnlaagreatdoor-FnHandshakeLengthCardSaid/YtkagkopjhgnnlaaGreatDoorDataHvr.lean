/- impl.dataVerifyRequest; impl.messageData of a HelloVerifyRequest. -/
import Derived.Test.YtkagkopjhgnnlaaGreatDoorData
import Derived.Deep.RegionWith
import Derived.BigRegion
import Derived.Laws.BytesString
namespace Go.Proofs.YtkagkopjhgnnlaaGreatDoor
open Go.RowKit

/-- A message of type 3: its version and its cookie. -/
abbrev m3 (a0 a1 : Int) (s : ByteArray) : Array Value := #[.int .u8 3, .bool false, .int .u8 a0, .int .u8 a1, .int .u32 0, .string { data := #[] }, .string s, .string { data := #[] }, .slice none 0 0, .slice none 0 0, .slice none 0 0, .slice none 0 0, .slice none 0 0, .slice none 0 0, .int .u16 0, .int .u16 0, .string { data := #[] }, .string { data := #[] }, .string { data := #[] }, .int .i64 0, .int .u8 0, .int .u16 0, .string { data := #[] }, .string { data := #[] }, .slice none 0 0]
theorem m3_one (a0 a1 : Int) (s : ByteArray) : (m3 a0 a1 s).all (·.oneCell') = true := by kernel_rfl
/-- A message of type 3 that is new. -/
abbrev m30 : Array Value := #[.int .u8 3, .bool false, .int .u8 0, .int .u8 0, .int .u32 0, .string { data := #[] }, .string { data := #[] }, .string { data := #[] }, .slice none 0 0, .slice none 0 0, .slice none 0 0, .slice none 0 0, .slice none 0 0, .slice none 0 0, .int .u16 0, .int .u16 0, .string { data := #[] }, .string { data := #[] }, .string { data := #[] }, .int .i64 0, .int .u8 0, .int .u16 0, .string { data := #[] }, .string { data := #[] }, .slice none 0 0]
theorem m30_one : m30.all (·.oneCell') = true := by kernel_rfl
theorem m30_set (a0 a1 : Int) (s : ByteArray) : ((m30.setIfInBounds 2 (.int .u8 a0)).setIfInBounds 3 (.int .u8 a1)).setIfInBounds 6 (.string s) = m3 a0 a1 s := by kernel_rfl

/-- Bytes as a slice's cells. -/
abbrev rowb (bs : List UInt8) : Array Value := (bs.map fun b => Value.int .u8 b.toNat).toArray
theorem push_all (bs : List UInt8) : ∀ s : ByteArray, (bs.map fun b => (b.toNat : Int)).foldl (fun r n => r.push (UInt8.ofNat n.toNat)) s = ⟨s.data ++ bs.toArray⟩ := by
  induction bs with
  | nil => intro s; simp
  | cons b bs ih =>
    intro s
    simp only [List.map_cons, List.foldl_cons, ih]
    congr 1
    simp [ByteArray.push]
theorem conv_row (W : World) (z : Nat) (bs : List UInt8) (s : ByteArray) (hs : s.data.toList = bs) (hz : W.heap[z]? = some (.cells (rowb bs) 5 (0, 0))) :
    (convert 30 9 (.slice (some ⟨z, 0, none⟩) bs.length bs.length)).run Tryz.prog W = .ok (.string s) W := by
  rw [run_convert_bytes_string W 30 9 5 _ _ _ Tryz.underlying30 Tryz.underlying5 Tryz.underlying9]
  have h := run_loadCells_list (P := Tryz.prog) W ⟨z, 0, none⟩ ((bs.map fun b => (b.toNat : Int)).map (Value.int .u8)) (fun j v hj => by
    have h := bcell hz j
    rw [show Addr.add ⟨z, 0, none⟩ j = ⟨z, j, none⟩ by cases j <;> simp [Addr.add], h]
    simpa [rowb] using hj)
  simp only [List.length_map] at h
  rw [run_bytesToString W _ _ _ _ h, push_all]
  congr 2
  apply ByteArray.ext
  simp [← hs]

/-- What the call stores into. -/
theorem data_world (w W : World) (g : Nat) (a0 a1 : Int) (s : ByteArray) (hb : Below g w W) (hg : W.heap[g]? = some (.cells m30 36 (0, 0))) :
    ∃ X : World, Hid (X = (((W.setCell ⟨g, 2, none⟩ (.int .u8 a0)).setCell ⟨g, 3, none⟩ (.int .u8 a1)).setCell ⟨g, 6, none⟩ (.string s)).drew) ∧ Hid (X.heap[g]? = some (.cells (m3 a0 a1 s) 36 (0, 0))) ∧ Hid (Below g w X) := by
  have h := bset (bset (bset hg 2 (.int .u8 a0)) 3 (.int .u8 a1)) 6 (.string s)
  rw [m30_set] at h
  exact ⟨_, Lib.hid rfl, Lib.hid h, Lib.hid ((((hb.setCell (Nat.le_refl _) _).setCell (Nat.le_refl _) _).setCell (Nat.le_refl _) _).trans ⟨rfl, rfl, rfl, Nat.le_refl _, fun _ _ => rfl⟩)⟩

set_option maxHeartbeats 4000000 in
set_option maxRecDepth 100000 in
theorem data_hvr (q z : Nat) (a0 a1 : Int) (bs : List UInt8) (s : ByteArray) (w : World) (hq : w.heap[q]? = some (.cells #[.int .u8 a0, .int .u8 a1, .slice (some ⟨z, 0, none⟩) bs.length bs.length] 70 (0, 0)))
    (hz : w.heap[z]? = some (.cells (rowb bs) 5 (0, 0))) (hs : s.data.toList = bs) :
    Calls Tryz.prog 17 #[.pointer (some ⟨q, 0, none⟩)] w fun e w' => e = .returned (.agg (m3 a0 a1 s)) ∧ Below w.heap.size w w' := by
  have hql := blt hq
  go_enter Tryz.func17, Tryz.ntmps17
  go_wp2_with (refine wpList_store_row (o := ⟨none, .store 36 (.tmp 3) (.tmp 4), _, _, _, _⟩) rfl 36 (.tmp 3) (.tmp 4) rfl (w.heap.size + 1) m30 rfl rfl 36 mz (by have h := heap_alloc_new (w.alloc (.cells mz 36)) (.cells mz 36); rwa [World.size_alloc] at h) (by kernel_rfl) rfl m30_one ?_)
  have hG : ((w.alloc (.cells mz 36)).alloc (.cells mz 36)).heap[w.heap.size + 1]? = some (.cells mz 36 (0, 0)) := by have h := heap_alloc_new (w.alloc (.cells mz 36)) (.cells mz 36); rwa [World.size_alloc] at h
  obtain ⟨X, hX⟩ : ∃ X : World, Hid (X = ((w.alloc (.cells mz 36)).alloc (.cells mz 36)).setRow (w.heap.size + 1) m30) := ⟨_, Lib.hid rfl⟩
  have XB : Below w.heap.size w X := by rw [hX.out]; exact below_setRow (((Below.refl _ _).alloc (Nat.le_refl _) _).alloc (by simp) _) (Nat.le_succ _) _
  have XG : X.heap[w.heap.size + 1]? = some (.cells m30 36 (0, 0)) := by rw [hX.out]; exact setRow_heap _ _ _ _ _ _ hG
  have XO : X.heap[w.heap.size]? = some (.cells mz 36 (0, 0)) := by rw [hX.out]; exact (setRow_other _ _ _ _ (by omega)).trans (bblk ((Below.refl _ _).alloc (Nat.le_refl _) _) (heap_alloc_new _ _))
  rw [← hX.out]
  have xq := XB.block q hql
  rw [hq] at xq
  have xz := XB.block z (blt hz)
  rw [hz] at xz
  have n2 : ∀ W : World, (∀ i, ¬ i = w.heap.size + 1 → W.heap[i]? = X.heap[i]?) → (convert 30 9 (.slice (some ⟨z, 0, none⟩) bs.length bs.length)).run Tryz.prog W = .ok (.string s) W := fun W h => conv_row W z bs s hs ((h z (by have := blt hz; omega)).trans xz)
  have x0 : X.cell? ⟨q, 0, none⟩ = _ := (bcell xq 0).trans rfl
  have x1 : X.cell? ⟨q, 1, none⟩ = _ := (bcell xq 1).trans rfl
  have x2 : X.cell? ⟨q, 2, none⟩ = _ := (bcell xq 2).trans rfl
  have nq : ¬ q = w.heap.size + 1 := by omega
  have nq' : ¬ w.heap.size + 1 = q := by omega
  have f2 : X.frozen? ⟨w.heap.size + 1, 2, none⟩ = false := bfrozen XG 2
  have f3 : X.frozen? ⟨w.heap.size + 1, 3, none⟩ = false := bfrozen XG 3
  have f6 : X.frozen? ⟨w.heap.size + 1, 6, none⟩ = false := bfrozen XG 6
  have g2 : X.cell? ⟨w.heap.size + 1, 2, none⟩ = _ := (bcell XG 2).trans rfl
  have g3 : X.cell? ⟨w.heap.size + 1, 3, none⟩ = _ := (bcell XG 3).trans rfl
  have g6 : X.cell? ⟨w.heap.size + 1, 6, none⟩ = _ := (bcell XG 6).trans rfl
  have c0 := n2 X.drew (fun _ _ => rfl)
  have c2 := n2 ((X.setCell ⟨w.heap.size + 1, 2, none⟩ (.int .u8 a0)).setCell ⟨w.heap.size + 1, 3, none⟩ (.int .u8 a1)).drew (fun i hi => (Below.heap_setCell _ _ _ _ hi).trans (Below.heap_setCell _ _ _ _ hi))
  have c1 := n2 ((X.setCell ⟨w.heap.size + 1, 2, none⟩ (.int .u8 a0))).drew (fun i hi => (Below.heap_setCell _ _ _ _ hi))
  obtain ⟨Y, hY, YG, YB⟩ := data_world X X (w.heap.size + 1) a0 a1 s (Below.refl _ _) XG
  have YO := Lib.hid ((YB.out.block w.heap.size (Nat.lt_succ_self _)).trans XO)
  have YW := Lib.hid (XB.trans (YB.out.mono (Nat.le_succ _)))
  have n30 := m3_one a0 a1 s
  clear n2 xq xz XG XO XB hX hq hz hG YB
  rename_i Q' K hK
  have tail : Exit.then K Q' Exit.normal { tmps := #[.pointer (some ⟨q, 0, none⟩), undef, .pointer (some ⟨w.heap.size, 0, none⟩), .pointer (some ⟨w.heap.size + 1, 0, none⟩), .agg m30, .pointer (some ⟨q, 0, none⟩), .pointer (some ⟨q, 0, none⟩), .pointer (some ⟨q, 0, none⟩), .pointer (some ⟨q, 0, none⟩), .int .u8 a0, .pointer (some ⟨q, 0, none⟩), .pointer (some ⟨q, 0, none⟩), .pointer (some ⟨q, 0, none⟩), .pointer (some ⟨q, 1, none⟩), .int .u8 a1, .pointer (some ⟨q, 0, none⟩), .pointer (some ⟨q, 0, none⟩), .pointer (some ⟨q, 2, none⟩), .slice (some ⟨z, 0, none⟩) bs.length bs.length, .string s, .pointer (some ⟨w.heap.size + 1, 2, none⟩), .pointer (some ⟨w.heap.size + 1, 3, none⟩), .pointer (some ⟨w.heap.size + 1, 6, none⟩), undef], defers := [] } Y := by
    go_wp2_with (first
      | (refine wpList_load_row (o := ⟨_, .load 36 (.tmp 3), _, _, _, _⟩) rfl 36 (.tmp 3) rfl (w.heap.size + 1) rfl 36 _ (0, 0) _ YG.out Tryz.underlying36 rfl (by kernel_rfl) ?_)
      | (refine wpList_store_row (o := ⟨none, .store 36 (.tmp 2) (.tmp 23), _, _, _, _⟩) rfl 36 (.tmp 2) (.tmp 23) rfl w.heap.size (m3 a0 a1 s) rfl rfl 36 mz YO.out (by kernel_rfl) rfl n30 ?_)
      | fail)
    refine bodyPost_ret (results_cell_row rfl _ _ w.heap.size 36 (m3 a0 a1 s) (0, 0) _ rfl (setRow_heap _ _ _ _ _ _ YO.out) Tryz.underlying36 rfl (by kernel_rfl)) rfl ⟨rfl, ?_⟩
    exact below_setRow YW.out (Nat.le_refl _) _
  have HT := Lib.hid tail
  clear tail
  go_region
  all_goals
    rw [← hY.out]
    exact HT.out
end Go.Proofs.YtkagkopjhgnnlaaGreatDoor

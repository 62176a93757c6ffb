/- spec.suiteNumber: a number in so many bytes. -/
import Derived.Test.YtgnmgkpfgmpdfaaGreatDoorSLst
import Derived.Test.YtgnmgkpfgmpdfaaGreatDoorSMsg
set_option linter.unusedVariables false
set_option linter.unusedSimpArgs false
section
namespace Go.Proofs.YtgnmgkpfgmpdfaaGreatDoor
open Go.RowKit

/-- The bytes laid behind k rounds: the last k. -/
def snC (x : Int) (b k : Nat) : List Value := (List.range b).map fun j => if b - k ≤ j then digV x (b - 1 - j) else .int .u8 0
theorem snC_length (x : Int) (b k : Nat) : (snC x b k).length = b := by simp [snC]
theorem snC_all (x : Int) (b : Nat) : snC x b b = numC x b b := by
  unfold snC numC
  refine List.map_congr_left fun j hj => ?_
  rw [if_pos (by omega)]
theorem snC_zero (x : Int) (b : Nat) : snC x b 0 = List.replicate b (.int .u8 0) := by
  refine List.ext_getElem (by simp [snC]) fun j h1 h2 => ?_
  have : j < b := by simpa [snC] using h1
  simp [snC, show ¬ b ≤ j by omega]
theorem snC_put (x : Int) (b k : Nat) (hk : k < b) : (snC x b k).set (b - 1 - k) (digV x k) = snC x b (k + 1) := by
  refine List.ext_getElem (by simp [snC]) fun j h1 h2 => ?_
  have hj : j < b := by simpa [snC] using h2
  rw [List.getElem_set]
  by_cases h : b - 1 - k = j
  · rw [if_pos h]
    simp only [snC, List.getElem_map, List.getElem_range]
    rw [if_pos (by omega)]
    congr 1
    omega
  · rw [if_neg h]
    simp only [snC, List.getElem_map, List.getElem_range]
    by_cases h2 : b - k ≤ j
    · rw [if_pos h2, if_pos (by omega)]
    · rw [if_neg h2, if_neg (by omega)]
theorem sn_made (x : Int) (b : Nat) : madeCells (Value.int .u8 0).cells b = (snC x b 0).toArray := by
  rw [snC_zero]
  refine Array.ext (by simp [madeCells]) fun j h1 h2 => ?_
  simp [madeCells, Value.cells, Nat.mod_one]
def SnRel (x : Int) (b : Nat) (w : World) (i : Value) (wr : World) : Prop :=
  ∃ k : Nat, k ≤ b ∧ i = .int .i64 (k : Int) ∧ wr.heap[w.heap.size]? = some (.cells (snC x b k).toArray 5 (0, 0)) ∧ Below w.heap.size w wr
set_option maxHeartbeats 2000000 in
set_option maxRecDepth 100000 in
theorem sn_any (x : Int) (b : Nat) (w : World) (hb1 : 1 ≤ b) (hb : b ≤ 8) :
    Calls Tryz.prog 59 #[.int .u64 x, .int .i64 (b : Int)] w fun e w' => e = .returned (.string (numS x b)) ∧ Below w.heap.size w w' := by
  have gb1 : (1 : Int) ≤ b := by omega
  have gb : (b : Int) ≤ 8 := by omega
  obtain ⟨i5, hi5, hz0, hz1, hz2⟩ := info_parts info5
  have hmk := run_make (P := Tryz.prog) w 24 5 i5 (.int .u8 0) underlying24 hi5 hz0 .i64 .i64 b b (by omega) (Int.le_refl _) (by rw [hz2]; omega) (by omega)
  rw [hz1, Nat.mul_one, Int.toNat_natCast, sn_made x b] at hmk
  clear hi5 hz0 hz1 hz2
  go_enter Tryz.func59, Tryz.ntmps59
  go_wp2_with fail
  have hB1 : Below w.heap.size w (w.alloc (Obj.cells (snC x b 0).toArray 5)) := (Below.refl _ _).alloc (Nat.le_refl _) _
  have hE1 := heap_alloc_new w (Obj.cells (snC x b 0).toArray 5)
  generalize w.alloc (Obj.cells (snC x b 0).toArray 5) = w1 at hB1 hE1 ⊢
  clear hmk
  have HB1 := Lib.hid hB1
  have HE1 := Lib.hid hE1
  clear hB1 hE1
  go_loopw [6] (fun i wr => SnRel x b w i wr) (fun i _ => ((b : Int) - intOf i).toNat)
  case atStart => exact ⟨0, by omega, by go_num, HE1.out, HB1.out⟩
  case round =>
    obtain ⟨k, hk, rfl, hE, hB⟩ := hrel
    by_cases hlt : k < b
    · obtain ⟨I, hI⟩ : ∃ I : Nat, (b : Int) - 1 - k = I := ⟨b - 1 - k, by omega⟩
      have gk : (k : Int) < b := by omega
      have gI : (I : Int) < b := by omega
      have kI : wr.cell? ⟨w.heap.size, I, none⟩ = some ((snC x b k).getD I undef) := by
        rw [bcell hE]
        simp [List.getD, snC_length, show I < b by omega]
      have fI := bfrozen hE I
      have hE2 := bset hE I (digV x k)
      have hB2 : Below w.heap.size w (wr.setCell ⟨w.heap.size, I, none⟩ (digV x k)) := hB.setCell (p := ⟨w.heap.size, I, none⟩) (Nat.le_refl _) _
      have hrel : SnRel x b w (.int .i64 ((k + 1 : Nat) : Int)) (wr.setCell ⟨w.heap.size, I, none⟩ (digV x k)) := ⟨k + 1, by omega, rfl, by
        rw [hE2, List.setIfInBounds_toArray]
        have e : I = b - 1 - k := by omega
        rw [e, snC_put x b k hlt], hB2⟩
      have HR := Lib.hid hrel
      clear hrel hE2 hB2 hE hB
      go_wp2_with fail
      go_roundw
      case rel => exact HR.out
      case measure => simp [intOf]; omega
    · obtain rfl : k = b := by omega
      rw [snC_all] at hE
      have hc := conv_text wr w.heap.size k k (numC x k k) (numC_length x k k) (fun j u hj => by
        rw [Nat.zero_add, bcell hE]
        simpa using hj) (fun u hu => by
        obtain ⟨j, _, rfl⟩ := List.mem_map.1 hu
        exact ⟨_, rfl⟩)
      have HB := Lib.hid hB
      clear hB hE
      go_wp2_with fail
      go_ret
      exact ⟨rfl, HB.out⟩
end Go.Proofs.YtgnmgkpfgmpdfaaGreatDoor
end

/- spec.SuitesWrite, CompressionWrite: what they write. -/
section
namespace Go.Proofs.YtgnmgkpfgmpdfaaGreatDoor
open Go.RowKit

theorem strOf_append (a b : List Value) : strOf a ++ strOf b = strOf (a ++ b) := by
  apply ByteArray.ext
  simp [strOf]
theorem strOf_size (l : List Value) : (strOf l).size = l.length := by
  show (List.map byteV l).toArray.size = _
  simp
theorem numS_wrap2 (x : Int) : numS (IntKind.u64.wrap x) 2 = numS x 2 := by
  have e : (List.range 2) = [0, 1] := rfl
  have h : numC (IntKind.u64.wrap x) 2 2 = numC x 2 2 := by
    unfold numC
    rw [e, IntKind.wrap_u64]
    simp only [List.map_cons, List.map_nil, digV, List.cons.injEq, Value.int.injEq, true_and, and_true]
    refine ⟨?_, ?_⟩
    · show x % 18446744073709551616 / 2 ^ 8 % 256 = x / 2 ^ 8 % 256
      omega
    · show x % 18446744073709551616 / 2 ^ 0 % 256 = x / 2 ^ 0 % 256
      omega
  rw [numS, h]
  rfl
/-- Numbers in two bytes each. -/
def suC (su : Nat → Int) (k : Nat) : List Value := (List.range k).flatMap fun j => numC (su j) 2 2
theorem suC_succ (su : Nat → Int) (k : Nat) : suC su (k + 1) = suC su k ++ numC (su k) 2 2 := by simp [suC, List.range_succ]
theorem suC_length (su : Nat → Int) (k : Nat) : (suC su k).length = 2 * k := by
  induction k with
  | zero => rfl
  | succ k ih => rw [suC_succ, List.length_append, ih, numC_length]; omega
def SwRel (su : Nat → Int) (n : Nat) (w : World) (s i : Value) (wr : World) : Prop :=
  ∃ k : Nat, k ≤ n ∧ i = .int .i64 (k : Int) ∧ s = .string (strOf (suC su k)) ∧ Below w.heap.size w wr
set_option maxHeartbeats 2000000 in
set_option maxRecDepth 100000 in
theorem suiteswrite_any (b o n c : Nat) (su : Nat → Int) (w : World) (hn : n ≤ 32767) (hm : ∀ j, j < n → w.cell? ⟨b, o + j, none⟩ = some (.int .u16 (su j))) :
    Calls Tryz.prog 81 #[.slice (some ⟨b, o, none⟩) n c] w fun e w' => e = .returned (.string (vecS (strOf (suC su n)) 2)) ∧ Below w.heap.size w w' := by
  have HM := Lib.hid hm
  have gn : (n : Int) ≤ 32767 := by omega
  clear hm
  go_enter Tryz.func81, Tryz.ntmps81
  go_wp2_with fail
  go_loopw [3, 4] (fun s i wr => SwRel su n w s i wr) (fun _ i _ => ((n : Int) - intOf i).toNat)
  case atStart => exact ⟨0, by omega, by go_num, rfl, Below.refl _ _⟩
  case round =>
    obtain ⟨k, hk, rfl, rfl, hB⟩ := hrel
    by_cases hlt : k < n
    · have gk : (k : Int) < n := by omega
      have hc : wr.cell? ⟨b, o + k, none⟩ = some (.int .u16 (su k)) := bcellv hB (HM.out k hlt)
      have HB := Lib.hid hB
      clear hB
      go_wp2_with fail
      refine (recNum_any (IntKind.u64.wrap (su k)) 2 wr (by omega) (by omega)).mono ?_
      rw [numS_wrap2]
      rintro e w3 ⟨rfl, hb3⟩
      have hrel : SwRel su n w (.string (strOf (suC su (k + 1)))) (.int .i64 ((k + 1 : Nat) : Int)) w3 := ⟨k + 1, by omega, rfl, rfl, HB.out.trans (hb3.mono HB.out.size)⟩
      have HR := Lib.hid hrel
      have hz1 : (strOf (suC su k)).size = 2 * k := by rw [strOf_size, suC_length]
      have hz2 := numS_size (su k) 2
      have hj : strOf (suC su k) ++ numS (su k) 2 = strOf (suC su (k + 1)) := by rw [numS, strOf_append, ← suC_succ]
      have HJ := Lib.hid hj
      clear hrel hb3 hc hj
      generalize numS (su k) 2 = N at hz2 HJ ⊢
      generalize strOf (suC su k) = S at hz1 HJ ⊢
      dsimp only
      go_wp2_with fail
      go_roundw
      case rel => rw [HJ.out]; exact HR.out
      case measure => simp [intOf]; omega
    · obtain rfl : k = n := by omega
      have hz1 : (strOf (suC su k)).size = 2 * k := by rw [strOf_size, suC_length]
      have HB := Lib.hid hB
      clear hB
      generalize hS : strOf (suC su k) = S at hz1 ⊢
      have HSS := Lib.hid hS
      clear hS
      go_wp2_with fail
      refine (recVec_any S 2 wr (by omega) (by omega) (by omega)).mono ?_
      rintro e w3 ⟨rfl, hb3⟩
      have HB3 := Lib.hid (HB.out.trans (hb3.mono HB.out.size))
      clear hb3
      dsimp only
      go_wp2_with fail
      go_ret
      exact ⟨by rw [HSS.out]; rfl, HB3.out⟩
theorem conv_at (W : World) (b o n c : Nat) (l : List Value) (hl : l.length = n) (h : ∀ j u, l[j]? = some u → W.cell? ⟨b, o + j, none⟩ = some u) (hb : ∀ u ∈ l, ∃ k : Int, u = .int .u8 k) :
    (convert 24 9 (.slice (some ⟨b, o, none⟩) n c)).run Tryz.prog W = .ok (.string (strOf l)) W := by
  rw [run_convert_bytes_string W 24 9 5 _ _ _ underlying24 (by kernel_rfl) (by kernel_rfl)]
  have hm : (l.map intOf).map (Value.int .u8) = l := by
    rw [List.map_map]
    conv => rhs; rw [← List.map_id l]
    refine List.map_congr_left (fun u hu => ?_)
    obtain ⟨k, rfl⟩ := hb u hu
    rfl
  have h2 := run_loadCells_list (P := Tryz.prog) W ⟨b, o, none⟩ l (fun j u hj => by rw [addr_add]; exact h j u hj)
  rw [hl, ← hm] at h2
  rw [run_bytesToString W _ _ _ _ h2, push_list]
  congr 2
  apply ByteArray.ext
  show ByteArray.empty.data ++ _ = _
  simp [strOf, byteV, Function.comp_def]
/-- Bytes behind their number. -/
def coC (n : Nat) (m : Nat → Int) : List Value := .int .u8 (n : Int) :: (List.range n).map fun j => .int .u8 (m j)
set_option maxHeartbeats 2000000 in
set_option maxRecDepth 100000 in
theorem compwrite_any (b o n c : Nat) (m : Nat → Int) (w : World) (hn : n < 256) (hm : ∀ j, j < n → w.cell? ⟨b, o + j, none⟩ = some (.int .u8 (m j))) :
    Calls Tryz.prog 82 #[.slice (some ⟨b, o, none⟩) n c] w fun e w' => e = .returned (.string (strOf (coC n m))) ∧ Below w.heap.size w w' := by
  have gn : (n : Int) ≤ 255 := by omega
  have gw : IntKind.u8.wrap (n : Int) = n := by rw [IntKind.wrap_u8]; omega
  have hB1 : Below w.heap.size w (w.alloc (Obj.cells #[.int .u8 (n : Int)] 5)) := (Below.refl _ _).alloc (Nat.le_refl _) _
  have h1 := conv_at (w.alloc (Obj.cells #[.int .u8 (n : Int)] 5)) w.heap.size 0 1 1 [.int .u8 (n : Int)] rfl (fun j u hj => by
    rw [Nat.zero_add, bcell (heap_alloc_new w _)]
    simpa using hj) (fun u hu => by simp at hu; exact ⟨_, hu⟩)
  have h2 := conv_at (w.alloc (Obj.cells #[.int .u8 (n : Int)] 5)) b o n c ((List.range n).map fun j => .int .u8 (m j)) (by simp) (fun j u hj => by
    rw [List.getElem?_map] at hj
    obtain ⟨i, hi, rfl⟩ := Option.map_eq_some_iff.1 hj
    obtain ⟨h, rfl⟩ := List.getElem?_eq_some_iff.1 hi
    have hjn : j < n := by simpa using h
    rw [List.getElem_range]
    exact bcellv hB1 (hm j hjn)) (fun u hu => by obtain ⟨j, _, rfl⟩ := List.mem_map.1 hu; exact ⟨_, rfl⟩)
  have hj : strOf [.int .u8 (n : Int)] ++ strOf ((List.range n).map fun j => .int .u8 (m j)) = strOf (coC n m) := strOf_append _ _
  have hz1 : (strOf [.int .u8 (n : Int)]).size = 1 := strOf_size _
  have hz2 : (strOf ((List.range n).map fun j => Value.int .u8 (m j))).size = n := by rw [strOf_size]; simp
  have HJ := Lib.hid hj
  have HB := Lib.hid hB1
  clear hj hB1 hm
  generalize strOf [.int .u8 (n : Int)] = A at h1 hz1 HJ
  generalize strOf ((List.range n).map fun j => Value.int .u8 (m j)) = B at h2 hz2 HJ
  go_enter Tryz.func82, Tryz.ntmps82
  go_wp2_with fail
  go_ret
  exact ⟨by rw [← HJ.out]; rfl, HB.out⟩
end Go.Proofs.YtgnmgkpfgmpdfaaGreatDoor
end

/- spec.ExtensionsWrite of no extensions. -/
section
namespace Go.Proofs.YtgnmgkpfgmpdfaaGreatDoor
open Go.RowKit

set_option maxHeartbeats 400000 in
set_option maxRecDepth 100000 in
theorem extswrite_nil (p : Option Addr) (c : Nat) (w : World) :
    Calls Tryz.prog 54 #[.slice p 0 c] w fun e w' => e = .returned (.tuple #[.string (vecS ⟨#[]⟩ 2), .bool true]) ∧ Below w.heap.size w w' := by
  have he : strOf [] = (⟨#[]⟩ : ByteArray) := rfl
  go_enter Tryz.func54, Tryz.ntmps54
  go_wp2_with fail
  go_loopw [4, 5] (fun s i wr => s = .string ⟨#[]⟩ ∧ i = .int .i64 0 ∧ wr = w) (fun _ _ _ => 0)
  case atStart => exact ⟨rfl, by go_num, rfl⟩
  case round =>
  obtain ⟨rfl, rfl, rfl⟩ := hrel
  go_wp2_with fail
  refine (recVec_any ⟨#[]⟩ 2 wr (by decide) (by decide) (by decide)).mono ?_
  rintro e w3 ⟨rfl, hb3⟩
  have HB3 := Lib.hid hb3
  clear hb3
  dsimp only
  go_wp2_with fail
  refine (recLong_2 ⟨#[]⟩ w3 (by decide)).mono ?_
  rintro e w4 ⟨rfl, rfl⟩
  have hL : longB ⟨#[]⟩ 2 = false := by decide
  rw [hL]
  dsimp only
  go_wp2_with fail
  go_ret2
  exact ⟨rfl, HB3.out⟩
end Go.Proofs.YtgnmgkpfgmpdfaaGreatDoor
end

/- spec.mesVersion, helloRound. -/
section
namespace Go.Proofs.YtgnmgkpfgmpdfaaGreatDoor
open Go.RowKit

set_option maxHeartbeats 1000000 in
set_option maxRecDepth 100000 in
theorem mesversion_any (ms : Array Value) (mj mi : Int) (w : World) (h2 : ms[2]? = some (.int .u8 mj)) (h3 : ms[3]? = some (.int .u8 mi)) :
    Calls Tryz.prog 49 #[.agg ms] w fun e w' => e = .returned (.string (strOf [.int .u8 mj, .int .u8 mi])) ∧ Below w.heap.size w w' := by
  have hB1 : Below w.heap.size w (w.alloc (Obj.cells ms 31)) := (Below.refl _ _).alloc (Nat.le_refl _) _
  have hE1 := heap_alloc_new w (Obj.cells ms 31)
  have hs1 := World.size_alloc w (Obj.cells ms 31)
  generalize hw : w.alloc (Obj.cells ms 31) = w1 at hB1 hE1 hs1
  have k2 := (bcell hE1 2).trans h2
  have k3 := (bcell hE1 3).trans h3
  have hB2 : Below w.heap.size w (w1.alloc (Obj.cells #[.int .u8 mj, .int .u8 mi] 5)) := hB1.alloc (by omega) _
  have hc := conv_at (w1.alloc (Obj.cells #[.int .u8 mj, .int .u8 mi] 5)) w1.heap.size 0 2 2 [.int .u8 mj, .int .u8 mi] rfl (fun j u hj => by
    rw [Nat.zero_add, bcell (heap_alloc_new w1 _)]
    simpa using hj) (fun u hu => by
      simp only [List.mem_cons, List.not_mem_nil, or_false] at hu
      rcases hu with rfl | rfl <;> exact ⟨_, rfl⟩)
  have HW := Lib.hid hw
  have HB := Lib.hid hB2
  clear hB1 hE1 hs1 hB2 h2 h3 hw
  generalize strOf [Value.int .u8 mj, .int .u8 mi] = S at hc ⊢
  go_enter Tryz.func49, Tryz.ntmps49
  go_upto_region 1 with fail
  rw [HW.out]
  go_wp2_with fail
  go_ret
  exact ⟨rfl, HB.out⟩
theorem helloround_any (w : World) : Calls Tryz.prog 84 #[] w fun e w' => e = .returned (.slice (some ⟨w.heap.size, 0, none⟩) 64 64) ∧ w' = w.alloc (.cells (Kc.map fun z => Value.int .u32 z).toArray 22) := by
  go_enter Tryz.func84, Tryz.ntmps84
  go_wp2
  go_ret
  exact ⟨rfl, rfl⟩
end Go.Proofs.YtgnmgkpfgmpdfaaGreatDoor
end

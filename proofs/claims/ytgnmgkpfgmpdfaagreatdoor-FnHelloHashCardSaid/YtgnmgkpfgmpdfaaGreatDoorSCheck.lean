/- sha256.bePutUint32, bePutUint64 into a block of the call's own. -/
import Derived.Test.YtgnmgkpfgmpdfaaGreatDoorProg
import Derived.Test.YtgnmgkpfgmpdfaaGreatDoorSChg
import Derived.Test.YtgnmgkpfgmpdfaaGreatDoorSPad
import Derived.WalkKit
import Derived.LoopTactic
import Derived.KernelRfl
import Derived.StillTailTactics
set_option linter.unusedVariables false
set_option linter.unusedSimpArgs false
section
namespace Go.Proofs.YtgnmgkpfgmpdfaaGreatDoor
open Go.RowKit

/-- Four bytes of a word, laid from place o on. -/
def put4 (cs : Array Value) (o : Nat) (v : Int) : Array Value :=
  (((cs.setIfInBounds o (.int .u8 (v / 16777216 % 256))).setIfInBounds (o + 1) (.int .u8 (v / 65536 % 256))).setIfInBounds (o + 2) (.int .u8 (v / 256 % 256))).setIfInBounds (o + 3) (.int .u8 (v % 256))
set_option maxHeartbeats 1000000 in
set_option maxRecDepth 100000 in
theorem put32 (g o n c : Nat) (v : Int) (t : TypeId) (cs : Array Value) (w : World) (hn : 4 ≤ n) (hn1 : n ≤ 9223372036854775807) (ho : o + 4 ≤ cs.size) (hb : w.heap[g]? = some (.cells cs t (0, 0))) :
    Calls Tryz.prog 128 #[.slice (some ⟨g, o, none⟩) n c, .int .u32 v] w fun e w' => e = .returned (.tuple #[]) ∧ w'.heap[g]? = some (.cells (put4 cs o v) t (0, 0)) ∧ Chg w w' (fun i => i = g) := by
  have H := Lib.hid hb
  have c0 := (bcell hb o).trans (Array.getElem?_eq_getElem (by omega))
  have c1 := (bcell hb (o + 1)).trans (Array.getElem?_eq_getElem (by omega))
  have c2 := (bcell hb (o + 2)).trans (Array.getElem?_eq_getElem (by omega))
  have c3 := (bcell hb (o + 3)).trans (Array.getElem?_eq_getElem (by omega))
  have f0 := bfrozen hb o
  have f1 := bfrozen hb (o + 1)
  have f2 := bfrozen hb (o + 2)
  have f3 := bfrozen hb (o + 3)
  clear hb
  have i0 : (0 : Int) < (n : Int) := by omega
  have i1 : (1 : Int) < (n : Int) := by omega
  have i2 : (2 : Int) < (n : Int) := by omega
  have i3 : (3 : Int) < (n : Int) := by omega
  go_enter Tryz.func128, Tryz.ntmps128
  go_wp2
  have b1 := bset H.out o (.int .u8 (v / 16777216 % 256))
  have b2 := bset b1 (o + 1) (.int .u8 (v / 65536 % 256))
  have b3 := bset b2 (o + 2) (.int .u8 (v / 256 % 256))
  have b4 := bset b3 (o + 3) (.int .u8 (v % 256))
  have d1 := (Chg.refl w (fun i => i = g)).setCell (p := ⟨g, o, none⟩) (.inl rfl) (.int .u8 (v / 16777216 % 256))
  have d2 := d1.setCell (p := ⟨g, o + 1, none⟩) (.inl rfl) (.int .u8 (v / 65536 % 256))
  have d3 := d2.setCell (p := ⟨g, o + 2, none⟩) (.inl rfl) (.int .u8 (v / 256 % 256))
  have d4 := d3.setCell (p := ⟨g, o + 3, none⟩) (.inl rfl) (.int .u8 (v % 256))
  exact bodyPost_end (v := .tuple #[]) (by kernel_rfl) rfl ⟨rfl, b4, d4⟩

/-- The first k of eight bytes of a number, laid from place o on. -/
def put8b (cs : Array Value) (o : Nat) (v : Int) : Nat → Array Value
  | 0 => cs
  | k + 1 => (put8b cs o v k).setIfInBounds (o + k) (.int .u8 (v / 2 ^ (56 - 8 * k) % 256))
theorem size_put8b (cs : Array Value) (o : Nat) (v : Int) : ∀ k, (put8b cs o v k).size = cs.size := by
  intro k
  induction k with
  | zero => rfl
  | succ k ih => simp [put8b, ih]
set_option maxHeartbeats 1000000 in
set_option maxRecDepth 100000 in
theorem put64 (g o n c : Nat) (v : Int) (t : TypeId) (cs : Array Value) (w : World) (hn : 8 ≤ n) (hn1 : n ≤ 9223372036854775807) (ho : o + 8 ≤ cs.size) (hb : w.heap[g]? = some (.cells cs t (0, 0))) :
    Calls Tryz.prog 127 #[.slice (some ⟨g, o, none⟩) n c, .int .u64 v] w fun e w' => e = .returned (.tuple #[]) ∧ w'.heap[g]? = some (.cells (put8b cs o v 8) t (0, 0)) ∧ Chg w w' (fun i => i = g) := by
  have H := Lib.hid hb
  have c7 := (bcell hb (o + 7)).trans (Array.getElem?_eq_getElem (by omega))
  clear hb
  have i7 : (7 : Int) < (n : Int) := by omega
  go_enter Tryz.func127, Tryz.ntmps127
  go_wp2
  go_loopw [4] (fun i wr => ∃ k : Nat, k ≤ 8 ∧ i = .int .i64 k ∧ Hid (wr.heap[g]? = some (.cells (put8b cs o v k) t (0, 0))) ∧ Chg w wr (fun i => i = g)) (fun i _ => 8 - (intOf i).toNat)
  case atStart => exact ⟨0, by omega, rfl, H, Chg.refl _ _⟩
  case round =>
    obtain ⟨k, hk, rfl, hH, hC⟩ := hrel
    by_cases hlt : k < 8
    · have ck := (bcell hH.out (o + k)).trans (Array.getElem?_eq_getElem (by rw [size_put8b]; omega))
      have fk := bfrozen hH.out (o + k)
      have ik : (k : Int) < (n : Int) := by omega
      go_wp2
      go_roundw
      case rel => exact ⟨k + 1, by omega, by go_num, bset hH.out (o + k) (.int .u8 (v / 2 ^ (56 - 8 * k) % 256)), hC.setCell (p := ⟨g, o + k, none⟩) (.inl rfl) _⟩
      case measure => simp [intOf]; omega
    · go_wp2
      obtain rfl : k = 8 := by omega
      exact bodyPost_end (v := .tuple #[]) (by kernel_rfl) rfl ⟨rfl, hH.out, hC⟩
end Go.Proofs.YtgnmgkpfgmpdfaaGreatDoor
end

/- sha256's checkSum. -/
section
namespace Go.Proofs.YtgnmgkpfgmpdfaaGreatDoor
open Go.RowKit

theorem put4_one {cs : Array Value} (h : ∀ u ∈ cs, u.oneCell' = true) (o : Nat) (v : Int) : ∀ u ∈ put4 cs o v, u.oneCell' = true := one_set (one_set (one_set (one_set h _ rfl) _ rfl) _ rfl) _ rfl
/-- The padding's bytes. -/
def padD (len t i : Nat) : UInt8 := if i = 0 then 128 else if i < t then 0 else UInt8.ofNat (len * 8 / 2 ^ (56 - 8 * (i - t)))
theorem digit_nat (a p : Nat) : (a : Int) / (p : Int) % 256 = ((UInt8.ofNat (a / p)).toNat : Int) := by
  simp only [UInt8.toNat_ofNat']
  omega
theorem put8b_get (cs : Array Value) (o : Nat) (v : Int) (i : Nat) : ∀ k, k ≤ 8 → o + 8 ≤ cs.size →
    (put8b cs o v k)[i]? = if o ≤ i ∧ i < o + k then some (.int .u8 (v / 2 ^ (56 - 8 * (i - o)) % 256)) else cs[i]? := by
  intro k
  induction k with
  | zero => intro _ _; rw [if_neg (by omega)]; rfl
  | succ k ih =>
    intro hk hs
    rw [put8b]
    by_cases e : o + k = i
    · subst e
      rw [set_same _ (by rw [size_put8b]; omega), if_pos (by omega)]
      rw [Nat.add_sub_cancel_left]
    · rw [set_ne _ e, ih (by omega) hs]
      by_cases h : o ≤ i ∧ i < o + k
      · rw [if_pos h, if_pos (by omega)]
      · rw [if_neg h, if_neg (by omega)]
theorem pad_get (len t i : Nat) (ht : 1 ≤ t) (ht1 : t ≤ 64) (hi : i < t + 8) :
    (put8b (Tryz.zeroCells281.setIfInBounds 0 (.int .u8 128)) t ((len : Int) * 8) 8)[i]? = some (.int .u8 ((padD len t i).toNat : Int)) := by
  have hz : Tryz.zeroCells281.size = 72 := by kernel_rfl
  have hz0 : Tryz.zeroCells281 = (List.replicate 72 (Value.int .u8 0)).toArray := by kernel_rfl
  rw [put8b_get _ _ _ _ 8 (by omega) (by simp [hz]; omega)]
  unfold padD
  by_cases h : t ≤ i ∧ i < t + 8
  · rw [if_pos h, if_neg (by omega), if_neg (by omega)]
    congr 2
  · rw [if_neg h]
    by_cases h0 : i = 0
    · subst h0
      rw [set_same _ (by omega), if_pos rfl]
      rfl
    · rw [set_ne _ (fun e => h0 e.symm), if_neg h0, if_pos (by omega), hz0]
      have hi' : i < 72 := by omega
      simp only [List.getElem?_toArray, List.getElem?_replicate, hi', if_true]
      rfl
theorem sl281 (n : Nat) (hn : (n : Int) ≤ 72) (hu : Tryz.prog.underlying 281 = some (.array 72 5)) (b : Nat) (W : World) :
    (Instr.sliceAt 281 (.pointer (some ⟨b, 0, none⟩)) none (some (.int .u64 (n : Int))) none).run Tryz.prog W = .ok (.slice (some ⟨b, 0, none⟩) n 72) W := by
  have h0 : (0 : Int) ≤ n := by omega
  have hs : (Tryz.prog.info? 5).map (·.size) = some 1 := size5
  cases hq : Tryz.prog.info? 5 with
  | none => simp [hq] at hs
  | some i =>
    have hn' : ¬ 72 < n := by omega
    simp [Instr.sliceAt, run_underlying hu, Instr.sureAddr, Instr.sliceBounds, Instr.sliceBound, asIntOf, h0, sizeOf, typeInfo, hq, Addr.add]
    intro h
    exact absurd h hn'
def zero32 : Array Value := (List.replicate 32 (Value.int .u8 0)).toArray
def outN (s : St8) : Nat → Array Value
  | 0 => zero32
  | 1 => put4 zero32 0 s.a
  | 2 => put4 (put4 zero32 0 s.a) 4 s.b
  | 3 => put4 (put4 (put4 zero32 0 s.a) 4 s.b) 8 s.c
  | 4 => put4 (put4 (put4 (put4 zero32 0 s.a) 4 s.b) 8 s.c) 12 s.d
  | 5 => put4 (put4 (put4 (put4 (put4 zero32 0 s.a) 4 s.b) 8 s.c) 12 s.d) 16 s.e
  | 6 => put4 (put4 (put4 (put4 (put4 (put4 zero32 0 s.a) 4 s.b) 8 s.c) 12 s.d) 16 s.e) 20 s.f
  | 7 => put4 (put4 (put4 (put4 (put4 (put4 (put4 zero32 0 s.a) 4 s.b) 8 s.c) 12 s.d) 16 s.e) 20 s.f) 24 s.g
  | _ => put4 (put4 (put4 (put4 (put4 (put4 (put4 (put4 zero32 0 s.a) 4 s.b) 8 s.c) 12 s.d) 16 s.e) 20 s.f) 24 s.g) 28 s.h
theorem put4_size (cs : Array Value) (o : Nat) (v : Int) : (put4 cs o v).size = cs.size := by simp [put4]
theorem outN_size (s : St8) (k : Nat) : (outN s k).size = 32 := by
  unfold outN
  have h : zero32.size = 32 := rfl
  split <;> (try simp only [put4_size]) <;> exact h
theorem zero32_one : ∀ u ∈ zero32, u.oneCell' = true := one_of_all (by kernel_rfl)
theorem outN_one (s : St8) : ∀ u ∈ outN s 8, u.oneCell' = true :=
  put4_one (put4_one (put4_one (put4_one (put4_one (put4_one (put4_one (put4_one zero32_one _ _) _ _) _ _) _ _) _ _) _ _) _ _) _ _
theorem all_of_one {cs : Array Value} (h : ∀ u ∈ cs, u.oneCell' = true) : cs.all (·.oneCell') = true := Array.all_eq_true_iff_forall_mem.2 h
theorem hu58 : Tryz.prog.underlying 58 = some (.array 32 5) := by kernel_rfl
theorem hi58 (s : St8) : (Tryz.prog.info? 58).map (·.size) = some (outN s 8).size := by rw [outN_size]; kernel_rfl
theorem hz58 (s : St8) : zero32.size = (outN s 8).size := (outN_size s 8).symm
set_option maxHeartbeats 2000000 in
set_option maxRecDepth 100000 in
theorem check_any (g r : Nat) (s : St8) (x : Nat → UInt8) (len : Nat) (cs : Array Value) (w : World) (hr : len % 64 = r) (hlen : len ≤ 1000000)
    (hK : ∀ j, j < 64 → w.cell? ⟨4, j, none⟩ = some (.int .u32 (Kc.getD j 0))) (hg4 : 4 ≠ g) (hg : w.heap[g]? = some (.cells cs 235 (0, 0))) (hs : Dig cs s x r len) :
    Calls Tryz.prog 116 #[.pointer (some ⟨g, 0, none⟩)] w fun e w' => e = .returned (.agg (outN (shaN (joinD x (padD len (padT r)) r) s ((r + (padT r + 8)) / 64)) 8)) ∧ Chg w w' (fun i => i = g) ∧ ∃ cs', w'.heap[g]? = some (.cells cs' 235 (0, 0)) ∧ cs'[74]? = some (.bool false) := by
  have HK := Lib.hid hK
  have HS := Lib.hid hs
  have h73 : ∀ o, (w.alloc o).cell? ⟨g, 73, none⟩ = some (.int .u64 (len : Int)) := fun o => bcellv ((Below.refl _ _).alloc (Nat.le_refl _) o) ((bcell hg 73).trans hs.len)
  have HG := Lib.hid hg
  have hlm : (len : Int) % 64 = (r : Int) := by omega
  have g0 : (0 : Int) ≤ len := by omega
  have gl : (len : Int) ≤ 1000000 := by omega
  have gr0 : (0 : Int) ≤ r := by omega
  have gr1 : (r : Int) < 64 := by omega
  have hr64 : r < 64 := by omega
  clear hK hs hg hr
  have hu281 : Tryz.prog.underlying 281 = some (.array 72 5) := by kernel_rfl
  by_cases h56 : r < 56
  · have h56I : (r : Int) < 56 := by omega
    obtain ⟨t, ht⟩ : ∃ t, t = 56 - r := ⟨_, rfl⟩
    obtain ⟨n, hn⟩ : ∃ n, n = t + 8 := ⟨_, rfl⟩
    have et : (56 : Int) - (r : Int) = (t : Int) := by omega
    have en : (t : Int) + 8 = (n : Int) := by omega
    have gt0 : (0 : Int) ≤ t := by omega
    have gt64 : (t : Int) ≤ 64 := by omega
    have gtn : (t : Int) ≤ n := by omega
    have gtnN : t ≤ n := by omega
    have gn72 : (n : Int) ≤ 72 := by omega
    have gnt : n - t = 8 := by omega
    have g72t : ¬ 72 = t := by omega
    have HT := Lib.hid ht
    have HN := Lib.hid hn
    clear ht hn
    have hsl := sl281 n gn72 hu281
    go_enter Tryz.func116, Tryz.ntmps116
    go_wp2_with fail
    have hB : Below w.heap.size w ((w.alloc (Obj.cells zero32 58)).alloc (Obj.cells (Tryz.zeroCells281.setIfInBounds 0 (.int .u8 128)) 281)) := ((Below.refl _ _).alloc (Nat.le_refl _) _).alloc (by simp) _
    have hT1 : ((w.alloc (Obj.cells zero32 58)).alloc (Obj.cells (Tryz.zeroCells281.setIfInBounds 0 (.int .u8 128)) 281)).heap[w.heap.size + 1]? = some (.cells (Tryz.zeroCells281.setIfInBounds 0 (.int .u8 128)) 281 (0, 0)) := by
      have h := heap_alloc_new (w.alloc (Obj.cells zero32 58)) (Obj.cells (Tryz.zeroCells281.setIfInBounds 0 (.int .u8 128)) 281)
      rwa [World.size_alloc] at h
    have hR1 : ((w.alloc (Obj.cells zero32 58)).alloc (Obj.cells (Tryz.zeroCells281.setIfInBounds 0 (.int .u8 128)) 281)).heap[w.heap.size]? = some (.cells zero32 58 (0, 0)) := by
      rw [heap_alloc_old _ _ (by simp)]
      exact heap_alloc_new _ _
    change Calls _ _ _ ((w.alloc (Obj.cells zero32 58)).alloc (Obj.cells (Tryz.zeroCells281.setIfInBounds 0 (.int .u8 128)) 281)) _
    generalize (w.alloc (Obj.cells zero32 58)).alloc (Obj.cells (Tryz.zeroCells281.setIfInBounds 0 (.int .u8 128)) 281) = w1 at hB hT1 hR1 ⊢
    have hT72 : (Tryz.zeroCells281.setIfInBounds 0 (Value.int .u8 128)).size = 72 := by kernel_rfl
    refine (put64 (w.heap.size + 1) t 8 (72 - t) ((len : Int) * 8) 281 _ w1 (by omega) (by omega) (by rw [hT72]; omega) hT1).mono ?_
    rintro e w2 ⟨rfl, hT2, hc2⟩
    have hgw : g < w.heap.size := blt HG.out
    have hc2' := (Chg.of_below hB (fun i => i = g)).trans hc2 (fun i hi e => by omega)
    have hg2 := hc2.blk (bblk hB HG.out) (by omega)
    have hR2 := hc2.blk hR1 (by omega)
    have hK2 : ∀ j, j < 64 → w2.cell? ⟨4, j, none⟩ = some (.int .u32 (Kc.getD j 0)) := fun j hj => by
      have h4 := World.block_lt_of_cell? w _ (HK.out j hj)
      simp only at h4
      exact hc2.cell (bcellv hB (HK.out j hj)) (by simp only; omega)
    have HT2 := Lib.hid hT2
    have HC2 := Lib.hid hc2'
    have HG2 := Lib.hid hg2
    have HR2 := Lib.hid hR2
    have HK2 := Lib.hid hK2
    have HGW := Lib.hid hgw
    clear hB hT1 hR1 hT72 hT2 hc2 hc2' hg2 hR2 hK2 hgw h73
    dsimp only
    go_wp2_with fail
    have hdat : ∀ j, j < n → w2.cell? ⟨w.heap.size + 1, 0 + j, none⟩ = some (.int .u8 ((padD len t j).toNat : Int)) := fun j hj => by
      rw [Nat.zero_add, bcell HT2.out]
      exact pad_get len t j (by have := HT.out; omega) (by have := HT.out; omega) (by have := HN.out; omega)
    have hpt : padT r = t := by
      have := HT.out
      unfold padT
      first | rw [if_pos h56, this] | rw [if_neg h56, this]
    refine (write_pad g (w.heap.size + 1) n r s x (padD len t) len cs w2 hr64 (by rw [hpt]; exact HN.out) hlen hdat (by have := HGW.out; omega) HK2.out hg4 HG2.out HS.out).mono ?_
    rintro e w3 ⟨rfl, hc3, cs3, hg3, hd3⟩
    rw [← hpt] at hd3
    have hc3' := HC2.out.trans hc3 (fun _ _ h => h)
    have hR3 := hc3.blk HR2.out (by have := HGW.out; omega)
    have j72 := (bcell hg3 72).trans hd3.nx
    have hsz3 : w.heap.size + 2 ≤ w3.heap.size := by
      have h1 := blt HT2.out
      have h2 := hc3.size
      omega
    have HC3 := Lib.hid hc3'
    have HR3 := Lib.hid hR3
    have HG3 := Lib.hid hg3
    have HD3 := Lib.hid hd3
    have HS3 := Lib.hid hsz3
    clear hc3 hc3' hR3 hg3 hd3 hdat hpt hsz3 hsl et en
    dsimp only
    go_wp2_with fail
    have hB4 : Below w3.heap.size w3 (w3.alloc (Obj.cells zero32 58)) := (Below.refl _ _).alloc (Nat.le_refl _) _
    have hd4 : (w3.alloc (Obj.cells zero32 58)).heap[w3.heap.size]? = some (.cells zero32 58 (0, 0)) := heap_alloc_new _ _
    have hg4 := bblk hB4 HG3.out
    have hr4 := bblk hB4 HR3.out
    have hc4 := HC3.out.below hB4
    change Code.wp _ _ _ _ (w3.alloc (Obj.cells zero32 58))
    generalize w3.alloc (Obj.cells zero32 58) = w4 at hB4 hd4 hg4 hr4 hc4 ⊢
    clear hB4
    generalize hS : shaN (joinD x (padD len (padT r)) r) s ((r + n) / 64) = S at HD3
    have HSS := Lib.hid hS
    clear hS j72
    have hgD : g ≠ w3.heap.size := fun e => by
      have := blt HG3.out
      omega
    have hRD : w.heap.size ≠ w3.heap.size := by have := HS3.out; omega
    have HGD := Lib.hid hgD
    have HRD := Lib.hid hRD
    have HD4 := Lib.hid hd4
    have HG4 := Lib.hid hg4
    have HR4 := Lib.hid hr4
    have HC4 := Lib.hid hc4
    clear hgD hRD hd4 hg4 hr4 hc4
    have k0 : w4.drew.cell? ⟨g, 0, none⟩ = some (.int .u32 S.a) := (bcell HG4.out 0).trans HD3.out.h8.h0
    go_still_tail 6, (by kernel_rfl)
    change wpList _ _ _ _ _ w4.drew
    clear k0
    go_wp2_with fail
    refine (put32 w3.heap.size 0 32 32 S.a 58 (outN S 0) w4.drew (by omega) (by omega) (by rw [outN_size]; omega) HD4.out).mono ?_
    rintro e w5 ⟨rfl, hd5, hc5⟩
    have hg5 := hc5.blk (show w4.drew.heap[g]? = _ from HG4.out) HGD.out
    have hr5 := hc5.blk (show w4.drew.heap[w.heap.size]? = _ from HR4.out) HRD.out
    have hcc5 := HC4.out.drew.trans hc5 (fun i hi e => by have := HS3.out; omega)
    have hd5' : w5.heap[w3.heap.size]? = some (.cells (outN S 1) 58 (0, 0)) := hd5
    have HD5 := Lib.hid hd5'
    have HG5 := Lib.hid hg5
    have HR5 := Lib.hid hr5
    have HC5 := Lib.hid hcc5
    clear hd5 hd5' hc5 hg5 hr5 hcc5
    dsimp only
    go_wp2_with fail
    have k1 : w5.drew.cell? ⟨g, 1, none⟩ = some (.int .u32 S.b) := (bcell HG5.out 1).trans HD3.out.h8.h1
    go_still_tail 6, (by kernel_rfl)
    change wpList _ _ _ _ _ w5.drew
    clear k1
    go_wp2_with fail
    refine (put32 w3.heap.size 4 28 28 S.b 58 (outN S 1) w5.drew (by omega) (by omega) (by rw [outN_size]; omega) HD5.out).mono ?_
    rintro e w6 ⟨rfl, hd6, hc6⟩
    have hg6 := hc6.blk (show w5.drew.heap[g]? = _ from HG5.out) HGD.out
    have hr6 := hc6.blk (show w5.drew.heap[w.heap.size]? = _ from HR5.out) HRD.out
    have hcc6 := HC5.out.drew.trans hc6 (fun i hi e => by have := HS3.out; omega)
    have hd6' : w6.heap[w3.heap.size]? = some (.cells (outN S 2) 58 (0, 0)) := hd6
    have HD6 := Lib.hid hd6'
    have HG6 := Lib.hid hg6
    have HR6 := Lib.hid hr6
    have HC6 := Lib.hid hcc6
    clear hd6 hd6' hc6 hg6 hr6 hcc6
    dsimp only
    go_wp2_with fail
    have k2 : w6.drew.cell? ⟨g, 2, none⟩ = some (.int .u32 S.c) := (bcell HG6.out 2).trans HD3.out.h8.h2
    go_still_tail 6, (by kernel_rfl)
    change wpList _ _ _ _ _ w6.drew
    clear k2
    go_wp2_with fail
    refine (put32 w3.heap.size 8 24 24 S.c 58 (outN S 2) w6.drew (by omega) (by omega) (by rw [outN_size]; omega) HD6.out).mono ?_
    rintro e w7 ⟨rfl, hd7, hc7⟩
    have hg7 := hc7.blk (show w6.drew.heap[g]? = _ from HG6.out) HGD.out
    have hr7 := hc7.blk (show w6.drew.heap[w.heap.size]? = _ from HR6.out) HRD.out
    have hcc7 := HC6.out.drew.trans hc7 (fun i hi e => by have := HS3.out; omega)
    have hd7' : w7.heap[w3.heap.size]? = some (.cells (outN S 3) 58 (0, 0)) := hd7
    have HD7 := Lib.hid hd7'
    have HG7 := Lib.hid hg7
    have HR7 := Lib.hid hr7
    have HC7 := Lib.hid hcc7
    clear hd7 hd7' hc7 hg7 hr7 hcc7
    dsimp only
    go_wp2_with fail
    have k3 : w7.drew.cell? ⟨g, 3, none⟩ = some (.int .u32 S.d) := (bcell HG7.out 3).trans HD3.out.h8.h3
    go_still_tail 6, (by kernel_rfl)
    change wpList _ _ _ _ _ w7.drew
    clear k3
    go_wp2_with fail
    refine (put32 w3.heap.size 12 20 20 S.d 58 (outN S 3) w7.drew (by omega) (by omega) (by rw [outN_size]; omega) HD7.out).mono ?_
    rintro e w8 ⟨rfl, hd8, hc8⟩
    have hg8 := hc8.blk (show w7.drew.heap[g]? = _ from HG7.out) HGD.out
    have hr8 := hc8.blk (show w7.drew.heap[w.heap.size]? = _ from HR7.out) HRD.out
    have hcc8 := HC7.out.drew.trans hc8 (fun i hi e => by have := HS3.out; omega)
    have hd8' : w8.heap[w3.heap.size]? = some (.cells (outN S 4) 58 (0, 0)) := hd8
    have HD8 := Lib.hid hd8'
    have HG8 := Lib.hid hg8
    have HR8 := Lib.hid hr8
    have HC8 := Lib.hid hcc8
    clear hd8 hd8' hc8 hg8 hr8 hcc8
    dsimp only
    go_wp2_with fail
    have k4 : w8.drew.cell? ⟨g, 4, none⟩ = some (.int .u32 S.e) := (bcell HG8.out 4).trans HD3.out.h8.h4
    go_still_tail 6, (by kernel_rfl)
    change wpList _ _ _ _ _ w8.drew
    clear k4
    go_wp2_with fail
    refine (put32 w3.heap.size 16 16 16 S.e 58 (outN S 4) w8.drew (by omega) (by omega) (by rw [outN_size]; omega) HD8.out).mono ?_
    rintro e w9 ⟨rfl, hd9, hc9⟩
    have hg9 := hc9.blk (show w8.drew.heap[g]? = _ from HG8.out) HGD.out
    have hr9 := hc9.blk (show w8.drew.heap[w.heap.size]? = _ from HR8.out) HRD.out
    have hcc9 := HC8.out.drew.trans hc9 (fun i hi e => by have := HS3.out; omega)
    have hd9' : w9.heap[w3.heap.size]? = some (.cells (outN S 5) 58 (0, 0)) := hd9
    have HD9 := Lib.hid hd9'
    have HG9 := Lib.hid hg9
    have HR9 := Lib.hid hr9
    have HC9 := Lib.hid hcc9
    clear hd9 hd9' hc9 hg9 hr9 hcc9
    dsimp only
    go_wp2_with fail
    have k5 : w9.drew.cell? ⟨g, 5, none⟩ = some (.int .u32 S.f) := (bcell HG9.out 5).trans HD3.out.h8.h5
    go_still_tail 6, (by kernel_rfl)
    change wpList _ _ _ _ _ w9.drew
    clear k5
    go_wp2_with fail
    refine (put32 w3.heap.size 20 12 12 S.f 58 (outN S 5) w9.drew (by omega) (by omega) (by rw [outN_size]; omega) HD9.out).mono ?_
    rintro e w10 ⟨rfl, hd10, hc10⟩
    have hg10 := hc10.blk (show w9.drew.heap[g]? = _ from HG9.out) HGD.out
    have hr10 := hc10.blk (show w9.drew.heap[w.heap.size]? = _ from HR9.out) HRD.out
    have hcc10 := HC9.out.drew.trans hc10 (fun i hi e => by have := HS3.out; omega)
    have hd10' : w10.heap[w3.heap.size]? = some (.cells (outN S 6) 58 (0, 0)) := hd10
    have HD10 := Lib.hid hd10'
    have HG10 := Lib.hid hg10
    have HR10 := Lib.hid hr10
    have HC10 := Lib.hid hcc10
    clear hd10 hd10' hc10 hg10 hr10 hcc10
    dsimp only
    go_wp2_with fail
    have k6 : w10.drew.cell? ⟨g, 6, none⟩ = some (.int .u32 S.g) := (bcell HG10.out 6).trans HD3.out.h8.h6
    go_still_tail 6, (by kernel_rfl)
    change wpList _ _ _ _ _ w10.drew
    clear k6
    go_wp2_with fail
    refine (put32 w3.heap.size 24 8 8 S.g 58 (outN S 6) w10.drew (by omega) (by omega) (by rw [outN_size]; omega) HD10.out).mono ?_
    rintro e w11 ⟨rfl, hd11, hc11⟩
    have hg11 := hc11.blk (show w10.drew.heap[g]? = _ from HG10.out) HGD.out
    have hr11 := hc11.blk (show w10.drew.heap[w.heap.size]? = _ from HR10.out) HRD.out
    have hcc11 := HC10.out.drew.trans hc11 (fun i hi e => by have := HS3.out; omega)
    have hd11' : w11.heap[w3.heap.size]? = some (.cells (outN S 7) 58 (0, 0)) := hd11
    have HD11 := Lib.hid hd11'
    have HG11 := Lib.hid hg11
    have HR11 := Lib.hid hr11
    have HC11 := Lib.hid hcc11
    clear hd11 hd11' hc11 hg11 hr11 hcc11
    have j74 := (bcell HG11.out 74).trans HD3.out.no
    dsimp only
    go_wp2_with fail
    clear j74
    have k7 : w11.drew.cell? ⟨g, 7, none⟩ = some (.int .u32 S.h) := (bcell HG11.out 7).trans HD3.out.h8.h7
    go_still_tail 6, (by kernel_rfl)
    change wpList _ _ _ _ _ w11.drew
    clear k7
    go_wp2_with fail
    refine (put32 w3.heap.size 28 4 4 S.h 58 (outN S 7) w11.drew (by omega) (by omega) (by rw [outN_size]; omega) HD11.out).mono ?_
    rintro e w12 ⟨rfl, hd12, hc12⟩
    have hg12 := hc12.blk (show w11.drew.heap[g]? = _ from HG11.out) HGD.out
    have hr12 := hc12.blk (show w11.drew.heap[w.heap.size]? = _ from HR11.out) HRD.out
    have hcc12 := HC11.out.drew.trans hc12 (fun i hi e => by have := HS3.out; omega)
    have hd12' : w12.heap[w3.heap.size]? = some (.cells (outN S 8) 58 (0, 0)) := hd12
    have HD12 := Lib.hid hd12'
    have HG12 := Lib.hid hg12
    have HR12 := Lib.hid hr12
    have HC12 := Lib.hid hcc12
    clear hd12 hd12' hc12 hg12 hr12 hcc12
    dsimp only
    go_wp2_with (first | (with_reducible refine wpList_load_row rfl 58 (.tmp 7) rfl w3.heap.size (by kernel_rfl) 58 (outN S 8) (0, 0) _ HD12.out hu58 rfl (hi58 S) ?_) | (with_reducible refine wpList_store_row rfl 58 (.tmp 2) (.tmp 103) rfl w.heap.size (outN S 8) (by kernel_rfl) (by kernel_rfl) 58 zero32 HR12.out (hi58 S) (hz58 S) (all_of_one (outN_one S)) ?_))
    have hpt : padT r = t := by
      have := HT.out
      unfold padT
      first | rw [if_pos h56, this] | rw [if_neg h56, this]
    have hSS := HSS.out
    rw [HN.out, ← hpt] at hSS
    rw [hSS]
    exact bodyPost_ret (results_cell_row rfl _ _ w.heap.size 58 (outN S 8) (0, 0) _ (by kernel_rfl) (setRow_heap w12 w.heap.size zero32 _ 58 _ HR12.out) hu58 rfl (hi58 S)) rfl ⟨rfl, HC12.out.trans (setRow_chg w12 w.heap.size (outN S 8)) (fun i hi e => by omega), cs3, (setRow_other w12 w.heap.size g (outN S 8) (by have := HGW.out; omega)).trans HG12.out, HD3.out.no⟩
  · have h56I : ¬ (r : Int) < 56 := by omega
    obtain ⟨t, ht⟩ : ∃ t, t = 120 - r := ⟨_, rfl⟩
    obtain ⟨n, hn⟩ : ∃ n, n = t + 8 := ⟨_, rfl⟩
    have et : (120 : Int) - (r : Int) = (t : Int) := by omega
    have en : (t : Int) + 8 = (n : Int) := by omega
    have gt0 : (0 : Int) ≤ t := by omega
    have gt64 : (t : Int) ≤ 64 := by omega
    have gtn : (t : Int) ≤ n := by omega
    have gtnN : t ≤ n := by omega
    have gn72 : (n : Int) ≤ 72 := by omega
    have gnt : n - t = 8 := by omega
    have g72t : ¬ 72 = t := by omega
    have HT := Lib.hid ht
    have HN := Lib.hid hn
    clear ht hn
    have hsl := sl281 n gn72 hu281
    go_enter Tryz.func116, Tryz.ntmps116
    go_wp2_with fail
    have hB : Below w.heap.size w ((w.alloc (Obj.cells zero32 58)).alloc (Obj.cells (Tryz.zeroCells281.setIfInBounds 0 (.int .u8 128)) 281)) := ((Below.refl _ _).alloc (Nat.le_refl _) _).alloc (by simp) _
    have hT1 : ((w.alloc (Obj.cells zero32 58)).alloc (Obj.cells (Tryz.zeroCells281.setIfInBounds 0 (.int .u8 128)) 281)).heap[w.heap.size + 1]? = some (.cells (Tryz.zeroCells281.setIfInBounds 0 (.int .u8 128)) 281 (0, 0)) := by
      have h := heap_alloc_new (w.alloc (Obj.cells zero32 58)) (Obj.cells (Tryz.zeroCells281.setIfInBounds 0 (.int .u8 128)) 281)
      rwa [World.size_alloc] at h
    have hR1 : ((w.alloc (Obj.cells zero32 58)).alloc (Obj.cells (Tryz.zeroCells281.setIfInBounds 0 (.int .u8 128)) 281)).heap[w.heap.size]? = some (.cells zero32 58 (0, 0)) := by
      rw [heap_alloc_old _ _ (by simp)]
      exact heap_alloc_new _ _
    change Calls _ _ _ ((w.alloc (Obj.cells zero32 58)).alloc (Obj.cells (Tryz.zeroCells281.setIfInBounds 0 (.int .u8 128)) 281)) _
    generalize (w.alloc (Obj.cells zero32 58)).alloc (Obj.cells (Tryz.zeroCells281.setIfInBounds 0 (.int .u8 128)) 281) = w1 at hB hT1 hR1 ⊢
    have hT72 : (Tryz.zeroCells281.setIfInBounds 0 (Value.int .u8 128)).size = 72 := by kernel_rfl
    refine (put64 (w.heap.size + 1) t 8 (72 - t) ((len : Int) * 8) 281 _ w1 (by omega) (by omega) (by rw [hT72]; omega) hT1).mono ?_
    rintro e w2 ⟨rfl, hT2, hc2⟩
    have hgw : g < w.heap.size := blt HG.out
    have hc2' := (Chg.of_below hB (fun i => i = g)).trans hc2 (fun i hi e => by omega)
    have hg2 := hc2.blk (bblk hB HG.out) (by omega)
    have hR2 := hc2.blk hR1 (by omega)
    have hK2 : ∀ j, j < 64 → w2.cell? ⟨4, j, none⟩ = some (.int .u32 (Kc.getD j 0)) := fun j hj => by
      have h4 := World.block_lt_of_cell? w _ (HK.out j hj)
      simp only at h4
      exact hc2.cell (bcellv hB (HK.out j hj)) (by simp only; omega)
    have HT2 := Lib.hid hT2
    have HC2 := Lib.hid hc2'
    have HG2 := Lib.hid hg2
    have HR2 := Lib.hid hR2
    have HK2 := Lib.hid hK2
    have HGW := Lib.hid hgw
    clear hB hT1 hR1 hT72 hT2 hc2 hc2' hg2 hR2 hK2 hgw h73
    dsimp only
    go_wp2_with fail
    have hdat : ∀ j, j < n → w2.cell? ⟨w.heap.size + 1, 0 + j, none⟩ = some (.int .u8 ((padD len t j).toNat : Int)) := fun j hj => by
      rw [Nat.zero_add, bcell HT2.out]
      exact pad_get len t j (by have := HT.out; omega) (by have := HT.out; omega) (by have := HN.out; omega)
    have hpt : padT r = t := by
      have := HT.out
      unfold padT
      first | rw [if_pos h56, this] | rw [if_neg h56, this]
    refine (write_pad g (w.heap.size + 1) n r s x (padD len t) len cs w2 hr64 (by rw [hpt]; exact HN.out) hlen hdat (by have := HGW.out; omega) HK2.out hg4 HG2.out HS.out).mono ?_
    rintro e w3 ⟨rfl, hc3, cs3, hg3, hd3⟩
    rw [← hpt] at hd3
    have hc3' := HC2.out.trans hc3 (fun _ _ h => h)
    have hR3 := hc3.blk HR2.out (by have := HGW.out; omega)
    have j72 := (bcell hg3 72).trans hd3.nx
    have hsz3 : w.heap.size + 2 ≤ w3.heap.size := by
      have h1 := blt HT2.out
      have h2 := hc3.size
      omega
    have HC3 := Lib.hid hc3'
    have HR3 := Lib.hid hR3
    have HG3 := Lib.hid hg3
    have HD3 := Lib.hid hd3
    have HS3 := Lib.hid hsz3
    clear hc3 hc3' hR3 hg3 hd3 hdat hpt hsz3 hsl et en
    dsimp only
    go_wp2_with fail
    have hB4 : Below w3.heap.size w3 (w3.alloc (Obj.cells zero32 58)) := (Below.refl _ _).alloc (Nat.le_refl _) _
    have hd4 : (w3.alloc (Obj.cells zero32 58)).heap[w3.heap.size]? = some (.cells zero32 58 (0, 0)) := heap_alloc_new _ _
    have hg4 := bblk hB4 HG3.out
    have hr4 := bblk hB4 HR3.out
    have hc4 := HC3.out.below hB4
    change Code.wp _ _ _ _ (w3.alloc (Obj.cells zero32 58))
    generalize w3.alloc (Obj.cells zero32 58) = w4 at hB4 hd4 hg4 hr4 hc4 ⊢
    clear hB4
    generalize hS : shaN (joinD x (padD len (padT r)) r) s ((r + n) / 64) = S at HD3
    have HSS := Lib.hid hS
    clear hS j72
    have hgD : g ≠ w3.heap.size := fun e => by
      have := blt HG3.out
      omega
    have hRD : w.heap.size ≠ w3.heap.size := by have := HS3.out; omega
    have HGD := Lib.hid hgD
    have HRD := Lib.hid hRD
    have HD4 := Lib.hid hd4
    have HG4 := Lib.hid hg4
    have HR4 := Lib.hid hr4
    have HC4 := Lib.hid hc4
    clear hgD hRD hd4 hg4 hr4 hc4
    have k0 : w4.drew.cell? ⟨g, 0, none⟩ = some (.int .u32 S.a) := (bcell HG4.out 0).trans HD3.out.h8.h0
    go_still_tail 6, (by kernel_rfl)
    change wpList _ _ _ _ _ w4.drew
    clear k0
    go_wp2_with fail
    refine (put32 w3.heap.size 0 32 32 S.a 58 (outN S 0) w4.drew (by omega) (by omega) (by rw [outN_size]; omega) HD4.out).mono ?_
    rintro e w5 ⟨rfl, hd5, hc5⟩
    have hg5 := hc5.blk (show w4.drew.heap[g]? = _ from HG4.out) HGD.out
    have hr5 := hc5.blk (show w4.drew.heap[w.heap.size]? = _ from HR4.out) HRD.out
    have hcc5 := HC4.out.drew.trans hc5 (fun i hi e => by have := HS3.out; omega)
    have hd5' : w5.heap[w3.heap.size]? = some (.cells (outN S 1) 58 (0, 0)) := hd5
    have HD5 := Lib.hid hd5'
    have HG5 := Lib.hid hg5
    have HR5 := Lib.hid hr5
    have HC5 := Lib.hid hcc5
    clear hd5 hd5' hc5 hg5 hr5 hcc5
    dsimp only
    go_wp2_with fail
    have k1 : w5.drew.cell? ⟨g, 1, none⟩ = some (.int .u32 S.b) := (bcell HG5.out 1).trans HD3.out.h8.h1
    go_still_tail 6, (by kernel_rfl)
    change wpList _ _ _ _ _ w5.drew
    clear k1
    go_wp2_with fail
    refine (put32 w3.heap.size 4 28 28 S.b 58 (outN S 1) w5.drew (by omega) (by omega) (by rw [outN_size]; omega) HD5.out).mono ?_
    rintro e w6 ⟨rfl, hd6, hc6⟩
    have hg6 := hc6.blk (show w5.drew.heap[g]? = _ from HG5.out) HGD.out
    have hr6 := hc6.blk (show w5.drew.heap[w.heap.size]? = _ from HR5.out) HRD.out
    have hcc6 := HC5.out.drew.trans hc6 (fun i hi e => by have := HS3.out; omega)
    have hd6' : w6.heap[w3.heap.size]? = some (.cells (outN S 2) 58 (0, 0)) := hd6
    have HD6 := Lib.hid hd6'
    have HG6 := Lib.hid hg6
    have HR6 := Lib.hid hr6
    have HC6 := Lib.hid hcc6
    clear hd6 hd6' hc6 hg6 hr6 hcc6
    dsimp only
    go_wp2_with fail
    have k2 : w6.drew.cell? ⟨g, 2, none⟩ = some (.int .u32 S.c) := (bcell HG6.out 2).trans HD3.out.h8.h2
    go_still_tail 6, (by kernel_rfl)
    change wpList _ _ _ _ _ w6.drew
    clear k2
    go_wp2_with fail
    refine (put32 w3.heap.size 8 24 24 S.c 58 (outN S 2) w6.drew (by omega) (by omega) (by rw [outN_size]; omega) HD6.out).mono ?_
    rintro e w7 ⟨rfl, hd7, hc7⟩
    have hg7 := hc7.blk (show w6.drew.heap[g]? = _ from HG6.out) HGD.out
    have hr7 := hc7.blk (show w6.drew.heap[w.heap.size]? = _ from HR6.out) HRD.out
    have hcc7 := HC6.out.drew.trans hc7 (fun i hi e => by have := HS3.out; omega)
    have hd7' : w7.heap[w3.heap.size]? = some (.cells (outN S 3) 58 (0, 0)) := hd7
    have HD7 := Lib.hid hd7'
    have HG7 := Lib.hid hg7
    have HR7 := Lib.hid hr7
    have HC7 := Lib.hid hcc7
    clear hd7 hd7' hc7 hg7 hr7 hcc7
    dsimp only
    go_wp2_with fail
    have k3 : w7.drew.cell? ⟨g, 3, none⟩ = some (.int .u32 S.d) := (bcell HG7.out 3).trans HD3.out.h8.h3
    go_still_tail 6, (by kernel_rfl)
    change wpList _ _ _ _ _ w7.drew
    clear k3
    go_wp2_with fail
    refine (put32 w3.heap.size 12 20 20 S.d 58 (outN S 3) w7.drew (by omega) (by omega) (by rw [outN_size]; omega) HD7.out).mono ?_
    rintro e w8 ⟨rfl, hd8, hc8⟩
    have hg8 := hc8.blk (show w7.drew.heap[g]? = _ from HG7.out) HGD.out
    have hr8 := hc8.blk (show w7.drew.heap[w.heap.size]? = _ from HR7.out) HRD.out
    have hcc8 := HC7.out.drew.trans hc8 (fun i hi e => by have := HS3.out; omega)
    have hd8' : w8.heap[w3.heap.size]? = some (.cells (outN S 4) 58 (0, 0)) := hd8
    have HD8 := Lib.hid hd8'
    have HG8 := Lib.hid hg8
    have HR8 := Lib.hid hr8
    have HC8 := Lib.hid hcc8
    clear hd8 hd8' hc8 hg8 hr8 hcc8
    dsimp only
    go_wp2_with fail
    have k4 : w8.drew.cell? ⟨g, 4, none⟩ = some (.int .u32 S.e) := (bcell HG8.out 4).trans HD3.out.h8.h4
    go_still_tail 6, (by kernel_rfl)
    change wpList _ _ _ _ _ w8.drew
    clear k4
    go_wp2_with fail
    refine (put32 w3.heap.size 16 16 16 S.e 58 (outN S 4) w8.drew (by omega) (by omega) (by rw [outN_size]; omega) HD8.out).mono ?_
    rintro e w9 ⟨rfl, hd9, hc9⟩
    have hg9 := hc9.blk (show w8.drew.heap[g]? = _ from HG8.out) HGD.out
    have hr9 := hc9.blk (show w8.drew.heap[w.heap.size]? = _ from HR8.out) HRD.out
    have hcc9 := HC8.out.drew.trans hc9 (fun i hi e => by have := HS3.out; omega)
    have hd9' : w9.heap[w3.heap.size]? = some (.cells (outN S 5) 58 (0, 0)) := hd9
    have HD9 := Lib.hid hd9'
    have HG9 := Lib.hid hg9
    have HR9 := Lib.hid hr9
    have HC9 := Lib.hid hcc9
    clear hd9 hd9' hc9 hg9 hr9 hcc9
    dsimp only
    go_wp2_with fail
    have k5 : w9.drew.cell? ⟨g, 5, none⟩ = some (.int .u32 S.f) := (bcell HG9.out 5).trans HD3.out.h8.h5
    go_still_tail 6, (by kernel_rfl)
    change wpList _ _ _ _ _ w9.drew
    clear k5
    go_wp2_with fail
    refine (put32 w3.heap.size 20 12 12 S.f 58 (outN S 5) w9.drew (by omega) (by omega) (by rw [outN_size]; omega) HD9.out).mono ?_
    rintro e w10 ⟨rfl, hd10, hc10⟩
    have hg10 := hc10.blk (show w9.drew.heap[g]? = _ from HG9.out) HGD.out
    have hr10 := hc10.blk (show w9.drew.heap[w.heap.size]? = _ from HR9.out) HRD.out
    have hcc10 := HC9.out.drew.trans hc10 (fun i hi e => by have := HS3.out; omega)
    have hd10' : w10.heap[w3.heap.size]? = some (.cells (outN S 6) 58 (0, 0)) := hd10
    have HD10 := Lib.hid hd10'
    have HG10 := Lib.hid hg10
    have HR10 := Lib.hid hr10
    have HC10 := Lib.hid hcc10
    clear hd10 hd10' hc10 hg10 hr10 hcc10
    dsimp only
    go_wp2_with fail
    have k6 : w10.drew.cell? ⟨g, 6, none⟩ = some (.int .u32 S.g) := (bcell HG10.out 6).trans HD3.out.h8.h6
    go_still_tail 6, (by kernel_rfl)
    change wpList _ _ _ _ _ w10.drew
    clear k6
    go_wp2_with fail
    refine (put32 w3.heap.size 24 8 8 S.g 58 (outN S 6) w10.drew (by omega) (by omega) (by rw [outN_size]; omega) HD10.out).mono ?_
    rintro e w11 ⟨rfl, hd11, hc11⟩
    have hg11 := hc11.blk (show w10.drew.heap[g]? = _ from HG10.out) HGD.out
    have hr11 := hc11.blk (show w10.drew.heap[w.heap.size]? = _ from HR10.out) HRD.out
    have hcc11 := HC10.out.drew.trans hc11 (fun i hi e => by have := HS3.out; omega)
    have hd11' : w11.heap[w3.heap.size]? = some (.cells (outN S 7) 58 (0, 0)) := hd11
    have HD11 := Lib.hid hd11'
    have HG11 := Lib.hid hg11
    have HR11 := Lib.hid hr11
    have HC11 := Lib.hid hcc11
    clear hd11 hd11' hc11 hg11 hr11 hcc11
    have j74 := (bcell HG11.out 74).trans HD3.out.no
    dsimp only
    go_wp2_with fail
    clear j74
    have k7 : w11.drew.cell? ⟨g, 7, none⟩ = some (.int .u32 S.h) := (bcell HG11.out 7).trans HD3.out.h8.h7
    go_still_tail 6, (by kernel_rfl)
    change wpList _ _ _ _ _ w11.drew
    clear k7
    go_wp2_with fail
    refine (put32 w3.heap.size 28 4 4 S.h 58 (outN S 7) w11.drew (by omega) (by omega) (by rw [outN_size]; omega) HD11.out).mono ?_
    rintro e w12 ⟨rfl, hd12, hc12⟩
    have hg12 := hc12.blk (show w11.drew.heap[g]? = _ from HG11.out) HGD.out
    have hr12 := hc12.blk (show w11.drew.heap[w.heap.size]? = _ from HR11.out) HRD.out
    have hcc12 := HC11.out.drew.trans hc12 (fun i hi e => by have := HS3.out; omega)
    have hd12' : w12.heap[w3.heap.size]? = some (.cells (outN S 8) 58 (0, 0)) := hd12
    have HD12 := Lib.hid hd12'
    have HG12 := Lib.hid hg12
    have HR12 := Lib.hid hr12
    have HC12 := Lib.hid hcc12
    clear hd12 hd12' hc12 hg12 hr12 hcc12
    dsimp only
    go_wp2_with (first | (with_reducible refine wpList_load_row rfl 58 (.tmp 7) rfl w3.heap.size (by kernel_rfl) 58 (outN S 8) (0, 0) _ HD12.out hu58 rfl (hi58 S) ?_) | (with_reducible refine wpList_store_row rfl 58 (.tmp 2) (.tmp 103) rfl w.heap.size (outN S 8) (by kernel_rfl) (by kernel_rfl) 58 zero32 HR12.out (hi58 S) (hz58 S) (all_of_one (outN_one S)) ?_))
    have hpt : padT r = t := by
      have := HT.out
      unfold padT
      first | rw [if_pos h56, this] | rw [if_neg h56, this]
    have hSS := HSS.out
    rw [HN.out, ← hpt] at hSS
    rw [hSS]
    exact bodyPost_ret (results_cell_row rfl _ _ w.heap.size 58 (outN S 8) (0, 0) _ (by kernel_rfl) (setRow_heap w12 w.heap.size zero32 _ 58 _ HR12.out) hu58 rfl (hi58 S)) rfl ⟨rfl, HC12.out.trans (setRow_chg w12 w.heap.size (outN S 8)) (fun i hi e => by omega), cs3, (setRow_other w12 w.heap.size g (outN S 8) (by have := HGW.out; omega)).trans HG12.out, HD3.out.no⟩
end Go.Proofs.YtgnmgkpfgmpdfaaGreatDoor
end

/- sha256's Write, nothing waiting. -/
import Derived.Test.YtgnmgkpfgmpdfaaGreatDoorSOwn
import Derived.Test.YtgnmgkpfgmpdfaaGreatDoorSPad
import Derived.Test.YtgnmgkpfgmpdfaaGreatDoorSSum
import Derived.WalkKit
import Derived.LoopTactic
set_option linter.unusedVariables false
set_option linter.unusedSimpArgs false
section
namespace Go.Proofs.YtgnmgkpfgmpdfaaGreatDoor
open Go.RowKit

set_option maxHeartbeats 2000000 in
set_option maxRecDepth 100000 in
theorem write_a (g b off n c : Nat) (s : St8) (x d : Nat → UInt8) (len : Nat) (cs : Array Value) (w : World) (hn : 64 ≤ n) (hn1 : n ≤ 65535) (hnc : n ≤ c) (hc : c ≤ 9223372036854775807) (hlen : len ≤ 1000000) (hr : 0 < n % 64)
    (hdat : ∀ j, j < n → w.cell? ⟨b, off + j, none⟩ = some (.int .u8 ((d j).toNat : Int)))
    (hbg : b ≠ g) (hK : ∀ j, j < 64 → w.cell? ⟨4, j, none⟩ = some (.int .u32 (Kc.getD j 0))) (hg4 : 4 ≠ g) (hg : w.heap[g]? = some (.cells cs 235 (0, 0))) (hs : Dig cs s x 0 len) :
    Calls Tryz.prog 98 #[.pointer (some ⟨g, 0, none⟩), .slice (some ⟨b, off, none⟩) n c] w fun e w' => e = .returned (.tuple #[.int .i64 n, .nilIface]) ∧ Chg w w' (fun i => i = g) ∧
      ∃ cs', w'.heap[g]? = some (.cells cs' 235 (0, 0)) ∧ Dig cs' (shaN d s (n / 64)) (fun i => d (64 * (n / 64) + i)) (n % 64) (len + n) := by
  have HD := Lib.hid hdat
  have HK := Lib.hid hK
  have HS := Lib.hid hs
  have h73 := (bcell hg 73).trans hs.len
  have h72 := (bcell hg 72).trans hs.nx
  have f73 := bfrozen hg 73
  have hw73 : IntKind.u64.wrap ((len : Int) + (n : Int)) = (len : Int) + n := by rw [IntKind.wrap_u64]; omega
  have hw0 : IntKind.u64.wrap (n : Int) = (n : Int) := by rw [IntKind.wrap_u64]; omega
  have g0 : (0 : Int) ≤ len := by omega
  have g64 : (64 : Int) ≤ (n : Int) := by omega
  obtain ⟨m, hm⟩ : ∃ m, m = 64 * (n / 64) := ⟨_, rfl⟩
  have hand := andNot63 n (by omega)
  rw [← hm] at hand
  have g65 : (m : Int) ≤ 65536 := by omega
  have gm0 : (0 : Int) ≤ m := by omega
  have gmn : (m : Int) < n := by omega
  have gmc : (m : Int) ≤ c := by omega
  have hcm : ¬ c = m := by omega
  have hmn : m ≤ n := by omega
  have hmc : m ≤ c := by omega
  have HM := Lib.hid hm
  clear hm
  have HG := Lib.hid hg
  clear hdat hK hg hs
  go_enter Tryz.func98, Tryz.ntmps98
  go_wp2_with fail
  have hg1 := bset HG.out 73 (.int .u64 ((len : Int) + n))
  have hc1 : Chg w _ (fun i => i = g) := (Chg.refl w (fun i => i = g)).setCell (p := ⟨g, 73, none⟩) (.inl rfl) (.int .u64 ((len : Int) + n))
  clear h73 h72 f73
  generalize w.setCell ⟨g, 73, none⟩ (.int .u64 ((len : Int) + n)) = w1 at hg1 hc1 ⊢
  have HG1 := Lib.hid hg1
  have HC1 := Lib.hid hc1
  clear hg1 hc1
  refine wp_loop_once ?_
  go_wp2_with fail
  have hb1 : b < w1.heap.size := World.block_lt_of_cell? w1 _ (HC1.out.cell (HD.out 0 (by omega)) hbg)
  refine (block_any g b off m c s d _ w1 hmc hc (fun j hj => HC1.out.cell (HD.out j (by omega)) hbg) hb1 (fun j hj => HC1.out.cell (HK.out j hj) hg4) HG1.out (HS.out.h8.set (by omega) _)).mono ?_
  rintro e w2 ⟨rfl, hg2, hc2⟩
  have hc3 := HC1.out.trans hc2 (fun _ _ h => h)
  clear hc2
  generalize hcs2 : put8 (cs.setIfInBounds 73 (.int .u64 ((len : Int) + n))) (shaN d s (m / 64)) = cs2 at hg2
  have h75 : cs2.size = 75 := by rw [← hcs2, put8_size]; simp [HS.out.sz]
  have HCS := Lib.hid hcs2
  have HG2 := Lib.hid hg2
  have HC2 := Lib.hid hc3
  have hlen1 : (bytesAt d m (n - m)).length = Nat.min (n - m) 64 := by
    rw [bytesAt_length]
    have h1 := HM.out
    exact (Nat.min_eq_left (by omega)).symm
  have HL1 := Lib.hid hlen1
  have hfit1 : 8 + (bytesAt d m (n - m)).length ≤ cs2.size := by rw [bytesAt_length, h75]; have h1 := HM.out; omega
  have HF1 := Lib.hid hfit1
  have H75 := Lib.hid h75
  have gnm : (0 : Int) < (n : Int) - m := by omega
  have gnmN : 0 < n - m := by omega
  clear hcs2 hg2 hc3 hlen1 hfit1 h75
  have hsrc : ∀ j v, (bytesAt d m (n - m))[j]? = some v → w2.cell? ((⟨b, off + m, none⟩ : Addr).add j) = some v := by
    intro j v hv
    obtain ⟨hj, rfl⟩ := bytesAt_get hv
    have h1 := HC2.out.cell (HD.out (m + j) (by omega)) hbg
    rw [← Nat.add_assoc] at h1
    rw [addr_add]
    exact h1
  have HSRC := Lib.hid hsrc
  have hg3 := setRow_heap w2 g cs2 (spl cs2 8 (bytesAt d m (n - m))) 235 _ HG2.out
  have hc3 := HC2.out.trans (setRow_chg w2 g (spl cs2 8 (bytesAt d m (n - m)))) (fun _ _ h => h)
  have k72 := (bcell hg3 72).trans (Array.getElem?_eq_getElem (by rw [spl_size _ _ _ HF1.out, H75.out]; omega))
  have f72 := bfrozen hg3 72
  have HG3 := Lib.hid hg3
  have HC3 := Lib.hid hc3
  generalize hw3 : w2.setRow g (spl cs2 8 (bytesAt d m (n - m))) = w3 at HG3 HC3 k72 f72
  have HW3 := Lib.hid hw3
  clear hsrc hg3 hc3 hw3
  go_wp2_with (refine wpList_copy_own rfl (.tmp 90) (.tmp 91) 24 24 rfl 5 underlying24 size5 g 8 64 64 ⟨b, off + m, none⟩ (n - m) (c - m) (by kernel_rfl) (by kernel_rfl) cs2 235 HG2.out (bytesAt d m (n - m)) HL1.out HSRC.out HF1.out bytesAt_one ?_; change wpList _ _ _ _ _ (w2.setRow g (spl cs2 8 (bytesAt d m (n - m)))); rw [HW3.out, bytesAt_length])
  have hm := HM.out
  have e1 : m / 64 = n / 64 := by omega
  have e2 : n % 64 = n - m := by omega
  have hd := dig_tail HS.out (shaN d s (n / 64)) d m (n - m) (len + n) (by omega)
  rw [Int.natCast_add] at hd
  have hcs := HCS.out
  rw [e1] at hcs
  rw [hcs] at hd
  go_ret2
  refine ⟨rfl, HC3.out.setCell (p := ⟨g, 72, none⟩) (.inl rfl) _, _, bset HG3.out 72 _, ?_⟩
  rw [e2, ← hm]
  exact hd
end Go.Proofs.YtgnmgkpfgmpdfaaGreatDoor
end

/- sha256's Write, nothing waiting, less than a block. -/
section
namespace Go.Proofs.YtgnmgkpfgmpdfaaGreatDoor
open Go.RowKit

set_option maxHeartbeats 2000000 in
set_option maxRecDepth 100000 in
theorem write_c (g b off n c : Nat) (s : St8) (x d : Nat → UInt8) (len : Nat) (cs : Array Value) (w : World) (hn : n < 64) (hn1 : n ≤ 65535) (hnc : n ≤ c) (hc : c ≤ 9223372036854775807) (hlen : len ≤ 1000000) (hr : 0 < n)
    (hdat : ∀ j, j < n → w.cell? ⟨b, off + j, none⟩ = some (.int .u8 ((d j).toNat : Int)))
    (hbg : b ≠ g) (hK : ∀ j, j < 64 → w.cell? ⟨4, j, none⟩ = some (.int .u32 (Kc.getD j 0))) (hg4 : 4 ≠ g) (hg : w.heap[g]? = some (.cells cs 235 (0, 0))) (hs : Dig cs s x 0 len) :
    Calls Tryz.prog 98 #[.pointer (some ⟨g, 0, none⟩), .slice (some ⟨b, off, none⟩) n c] w fun e w' => e = .returned (.tuple #[.int .i64 n, .nilIface]) ∧ Chg w w' (fun i => i = g) ∧
      ∃ cs', w'.heap[g]? = some (.cells cs' 235 (0, 0)) ∧ Dig cs' s d n (len + n) := by
  have HD := Lib.hid hdat
  have HK := Lib.hid hK
  have HS := Lib.hid hs
  have h73 := (bcell hg 73).trans hs.len
  have h72 := (bcell hg 72).trans hs.nx
  have f73 := bfrozen hg 73
  have hw73 : IntKind.u64.wrap ((len : Int) + (n : Int)) = (len : Int) + n := by rw [IntKind.wrap_u64]; omega
  have hw0 : IntKind.u64.wrap (n : Int) = (n : Int) := by rw [IntKind.wrap_u64]; omega
  have g0 : (0 : Int) ≤ len := by omega
  have g64 : (n : Int) < 64 := by omega
  have gn0 : (0 : Int) < (n : Int) := by omega
  have gn0N : 0 < n := hr
  have HG := Lib.hid hg
  clear hdat hK hg hs
  have hg1 := bset HG.out 73 (.int .u64 ((len : Int) + n))
  have hc1 : Chg w _ (fun i => i = g) := (Chg.refl w (fun i => i = g)).setCell (p := ⟨g, 73, none⟩) (.inl rfl) (.int .u64 ((len : Int) + n))
  have j72 := (bcell hg1 72).trans ((set_ne cs (by omega) _).trans HS.out.nx)
  generalize hw1 : w.setCell ⟨g, 73, none⟩ (.int .u64 ((len : Int) + n)) = w1 at hg1 hc1 j72
  have HW1 := Lib.hid hw1
  have hlen1 : (bytesAt d 0 n).length = Nat.min n 64 := by
    rw [bytesAt_length]
    exact (Nat.min_eq_left (by omega)).symm
  have HL1 := Lib.hid hlen1
  generalize hcs1 : cs.setIfInBounds 73 (.int .u64 ((len : Int) + n)) = cs1 at hg1
  have h75 : cs1.size = 75 := by rw [← hcs1]; simp [HS.out.sz]
  have hfit1 : 8 + (bytesAt d 0 n).length ≤ cs1.size := by rw [bytesAt_length, h75]; omega
  have HF1 := Lib.hid hfit1
  have H75 := Lib.hid h75
  have HCS := Lib.hid hcs1
  have HG1 := Lib.hid hg1
  have HC1 := Lib.hid hc1
  have hsrc : ∀ j v, (bytesAt d 0 n)[j]? = some v → w1.cell? ((⟨b, off, none⟩ : Addr).add j) = some v := by
    intro j v hv
    obtain ⟨hj, rfl⟩ := bytesAt_get hv
    have h1 := HC1.out.cell (HD.out j (by omega)) hbg
    rw [addr_add, Nat.zero_add]
    exact h1
  have HSRC := Lib.hid hsrc
  have hg3 := setRow_heap w1 g cs1 (spl cs1 8 (bytesAt d 0 n)) 235 _ HG1.out
  have hc3 := HC1.out.trans (setRow_chg w1 g (spl cs1 8 (bytesAt d 0 n))) (fun _ _ h => h)
  have k72 := (bcell hg3 72).trans (Array.getElem?_eq_getElem (by rw [spl_size _ _ _ HF1.out, H75.out]; omega))
  have f72 := bfrozen hg3 72
  have HG3 := Lib.hid hg3
  have HC3 := Lib.hid hc3
  generalize hw3 : w1.setRow g (spl cs1 8 (bytesAt d 0 n)) = w3 at HG3 HC3 k72 f72
  have HW3 := Lib.hid hw3
  clear hsrc hg3 hc3 hw3 hw1 hlen1 hcs1 hg1 hc1 hfit1 h75 j72
  go_enter Tryz.func98, Tryz.ntmps98
  go_wp2_with (refine wpList_copy_own rfl (.tmp 90) (.tmp 91) 24 24 rfl 5 underlying24 size5 g 8 64 64 ⟨b, off, none⟩ n c (by kernel_rfl) (by kernel_rfl) cs1 235 (by rw [HW1.out]; exact HG1.out) (bytesAt d 0 n) HL1.out (by rw [HW1.out]; exact HSRC.out) HF1.out bytesAt_one ?_; rw [HW1.out]; change wpList _ _ _ _ _ (w1.setRow g (spl cs1 8 (bytesAt d 0 n))); rw [HW3.out, bytesAt_length])
  have hd := dig_tail0 HS.out d 0 n (len + n) (by omega)
  rw [Int.natCast_add, HCS.out] at hd
  go_ret2
  refine ⟨rfl, HC3.out.setCell (p := ⟨g, 72, none⟩) (.inl rfl) _, _, bset HG3.out 72 _, ?_⟩
  simp only [Nat.zero_add] at hd
  exact hd
end Go.Proofs.YtgnmgkpfgmpdfaaGreatDoor
end

/- sha256's Write, nothing waiting, whatever comes. -/
section
namespace Go.Proofs.YtgnmgkpfgmpdfaaGreatDoor
open Go.RowKit

theorem write_any (g b off n c : Nat) (s : St8) (x d : Nat → UInt8) (len : Nat) (cs : Array Value) (w : World) (hn : 0 < n) (hn1 : n ≤ 65535) (hnc : n ≤ c) (hc : c ≤ 9223372036854775807) (hlen : len ≤ 1000000)
    (hdat : ∀ j, j < n → w.cell? ⟨b, off + j, none⟩ = some (.int .u8 ((d j).toNat : Int)))
    (hbg : b ≠ g) (hK : ∀ j, j < 64 → w.cell? ⟨4, j, none⟩ = some (.int .u32 (Kc.getD j 0))) (hg4 : 4 ≠ g) (hg : w.heap[g]? = some (.cells cs 235 (0, 0))) (hs : Dig cs s x 0 len) :
    Calls Tryz.prog 98 #[.pointer (some ⟨g, 0, none⟩), .slice (some ⟨b, off, none⟩) n c] w fun e w' => e = .returned (.tuple #[.int .i64 n, .nilIface]) ∧ Chg w w' (fun i => i = g) ∧
      ∃ cs', w'.heap[g]? = some (.cells cs' 235 (0, 0)) ∧ Dig cs' (shaN d s (n / 64)) (fun i => d (64 * (n / 64) + i)) (n % 64) (len + n) := by
  by_cases h64 : n < 64
  · refine (write_c g b off n c s x d len cs w h64 hn1 hnc hc hlen hn hdat hbg hK hg4 hg hs).mono ?_
    rintro e w' ⟨he, h1, cs', h2, h3⟩
    refine ⟨he, h1, cs', h2, ?_⟩
    have e1 : n / 64 = 0 := by omega
    have e2 : n % 64 = n := by omega
    rw [e1, e2]
    simpa [shaN] using h3
  · by_cases hr : n % 64 = 0
    · refine (write_b g b off n c s x d len cs w (by omega) hn1 hnc hc hlen hr hdat hbg hK hg4 hg hs).mono ?_
      rintro e w' ⟨he, h1, cs', h2, h3⟩
      refine ⟨he, h1, cs', h2, ?_⟩
      rw [hr]
      exact ⟨h3.sz, h3.h8, fun j hj => by omega, h3.nx, h3.len, h3.no, h3.one⟩
    · exact write_a g b off n c s x d len cs w (by omega) hn1 hnc hc hlen (by omega) hdat hbg hK hg4 hg hs
end Go.Proofs.YtgnmgkpfgmpdfaaGreatDoor
end

/- sha256.Sum256. -/
section
namespace Go.Proofs.YtgnmgkpfgmpdfaaGreatDoor
open Go.RowKit

/-- A region whose rest runs in the text's order. -/
theorem wpAny_tail {P : Program} {md : Region.Mode} {ops : Array Oper} {Q : Exit → Act → World → Prop} (k : Nat) {fuel : Nat} {listed : Array Bool} {a : Act} {w : World} (l : List Oper) (hl : ops.toList.drop k = l) (hf : fuel = l.length)
    (hB : Region.seqB md ops l.length k listed = true) (h : wpList P ops Q l a w) : wpAny P md ops Q fuel listed a w := by
  subst hf
  refine wpAny_of_seq l k listed a w (fun j => ?_) hB h
  rw [← hl, List.getElem?_drop]
  simp
/-- The digest of n bytes. -/
def shaOf (d : Nat → UInt8) (n : Nat) : Array Value := sumOf (shaN d sha0 (n / 64)) (fun i => d (64 * (n / 64) + i)) (n % 64) (0 + n)
set_option maxHeartbeats 2000000 in
set_option maxRecDepth 100000 in
theorem sum256_any (b off n c : Nat) (d : Nat → UInt8) (w : World) (hn : 0 < n) (hn1 : n ≤ 65535) (hnc : n ≤ c) (hc : c ≤ 9223372036854775807)
    (hdat : ∀ j, j < n → w.cell? ⟨b, off + j, none⟩ = some (.int .u8 ((d j).toNat : Int))) (hK : ∀ j, j < 64 → w.cell? ⟨4, j, none⟩ = some (.int .u32 (Kc.getD j 0))) :
    Calls Tryz.prog 79 #[.slice (some ⟨b, off, none⟩) n c] w fun e w' => e = .returned (.agg (shaOf d n)) ∧ Below w.heap.size w w' := by
  have HD := Lib.hid hdat
  have HK := Lib.hid hK
  have hbw : b < w.heap.size := World.block_lt_of_cell? w _ (hdat 0 hn)
  have h4w : 4 < w.heap.size := World.block_lt_of_cell? w _ (hK 0 (by omega))
  clear hdat hK
  go_enter Tryz.func79, Tryz.ntmps79
  go_wp2_with fail
  have hB1 := (Below.refl w.heap.size w).alloc (Nat.le_refl _) (.cells zero32 58)
  have hr1 := heap_alloc_new w (.cells zero32 58)
  change Calls _ _ _ (w.alloc (Obj.cells zero32 58)) _
  have hs1 := World.size_alloc w (.cells zero32 58)
  generalize w.alloc (Obj.cells zero32 58) = w1 at hB1 hr1 hs1 ⊢
  refine (new_any w1).mono ?_
  rintro e w2 ⟨rfl, hg2, hc2⟩
  have hB2 := hB1.trans (hc2.to_below (by omega) (fun i h => h.elim))
  have hr2 := hc2.blk hr1 (fun h => h)
  generalize hg : w1.heap.size = g at hg2
  have hgs : g = w.heap.size + 1 := by omega
  have HB2 := Lib.hid hB2
  have HR2 := Lib.hid hr2
  have HG2 := Lib.hid hg2
  have HGS := Lib.hid hgs
  clear hB1 hr1 hs1 hg2 hc2 hB2 hr2 hg hgs
  dsimp only
  go_wp2_with fail
  refine (write_any g b off n c sha0 _ d 0 _ w2 hn hn1 hnc hc (by omega) (fun j hj => (HB2.out.cell (by exact hbw)).trans (HD.out j hj)) (by have := HGS.out; omega) (fun j hj => (HB2.out.cell (by exact h4w)).trans (HK.out j hj)) (by have := HGS.out; omega) HG2.out dig_reset).mono ?_
  rintro e w3 ⟨rfl, hc3, cs3, hg3, hd3⟩
  have hB3 : Below w.heap.size w w3 := HB2.out.trans (hc3.to_below (by have := HB2.out.size; omega) (fun i h => by have := HGS.out; omega))
  have hr3 := hc3.blk HR2.out (by have := HGS.out; omega)
  have HB3 := Lib.hid hB3
  have HR3 := Lib.hid hr3
  have HG3 := Lib.hid hg3
  have HD3 := Lib.hid hd3
  clear hc3 hB3 hr3 hg3 hd3
  dsimp only
  go_wp2_with fail
  have hB4 : Below w3.heap.size w3 (w3.alloc (Obj.cells zero32 58)) := (Below.refl _ _).alloc (Nat.le_refl _) _
  have hd4 : (w3.alloc (Obj.cells zero32 58)).heap[w3.heap.size]? = some (.cells zero32 58 (0, 0)) := heap_alloc_new _ _
  have hs4 := World.size_alloc w3 (.cells zero32 58)
  change Code.wp _ _ _ _ (w3.alloc (Obj.cells zero32 58))
  generalize w3.alloc (Obj.cells zero32 58) = w4 at hB4 hd4 hs4 ⊢
  have hB5 : Below w.heap.size w w4.drew := (HB3.out.trans (hB4.mono HB3.out.size)).drew
  have hg5 : w4.drew.heap[g]? = _ := bblk hB4 HG3.out
  have hd5 : w4.drew.heap[w3.heap.size]? = _ := hd4
  have hr5 : w4.drew.heap[w.heap.size]? = _ := bblk hB4 HR3.out
  have hs5 : w4.drew.heap.size = w3.heap.size + 1 := hs4
  refine wp_region_any (by kernel_rfl) ?_
  change wpAny _ _ _ _ _ _ _ w4.drew
  generalize w4.drew = w5 at hB5 hg5 hd5 hr5 hs5 ⊢
  have HB5 := Lib.hid hB5
  have HG5 := Lib.hid hg5
  have HD5 := Lib.hid hd5
  have HR5 := Lib.hid hr5
  have HS5 := Lib.hid hs5
  clear hB4 hd4 hs4 hB5 hg5 hd5 hr5 hs5
  refine wpAny_take1 (i := 0) (d := 9) (v := .slice (some ⟨w3.heap.size, 0, none⟩) 32 32) (fun _ _ _ _ _ h => h) (by kernel_rfl) (by kernel_rfl) (by kernel_rfl) (fun _ => by kernel_rfl) ?_
  refine wpAny_take1 (i := 1) (d := 10) (v := .pointer (some ⟨g, 0, none⟩)) (fun _ _ _ _ _ h => h) (by kernel_rfl) (by kernel_rfl) (by kernel_rfl) (fun _ => by kernel_rfl) ?_
  refine wpAny_tail 2 _ rfl rfl (by kernel_rfl) ?_
  simp only [Act.put, List.setIfInBounds_toArray, List.set_cons_zero, List.set_cons_succ, List.drop_succ_cons, List.drop_zero]
  go_wp2_with fail
  refine (sum_any g (n % 64) _ _ (0 + n) cs3 w5 (by rw [Nat.zero_add]) (by omega) (fun j hj => (HB5.out.cell (by exact h4w)).trans (HK.out j hj)) HG5.out HD3.out).mono ?_
  rintro e w6 ⟨q, cap, rfl, hb6, hcap, hq, hcell⟩
  have ho1 : ∀ u ∈ shaOf d n, u.oneCell' = true := sumOf_one _ _ _ _
  have ho2 : (shaOf d n).size = 32 := sumOf_size _ _ _ _
  have ho3 : (Tryz.prog.info? 58).map (·.size) = some (shaOf d n).size := by rw [ho2]; kernel_rfl
  change ∀ j u, (shaOf d n)[j]? = some u → _ at hcell
  generalize hO : shaOf d n = out at ho1 ho2 ho3 hcell
  have HO := Lib.hid hO
  clear hO
  have hd6 := bblk hb6 HD5.out
  have hr6 := bblk hb6 HR5.out
  have hl : out.toList.length = 32 := by rw [Array.length_toList, ho2]
  have hspl : (zero32.toList.take 0 ++ (out.toList ++ zero32.toList.drop (0 + out.toList.length))).toArray = out := by
    rw [hl]
    simp [zero32]
  have hB6 : Below w.heap.size w w6 := HB5.out.trans (hb6.mono (by have := HB5.out.size; omega))
  have hne : w.heap.size ≠ w3.heap.size := by have h1 := HB3.out.size; have h2 := HGS.out; have := blt HG3.out; omega
  have hd7 := setRow_heap w6 w3.heap.size zero32 out 58 _ hd6
  have hr7 : (w6.setRow w3.heap.size out).heap[w.heap.size]? = _ := (setRow_other w6 w3.heap.size w.heap.size out hne).trans hr6
  have hB7 : Below w.heap.size w (w6.setRow w3.heap.size out) := below_setRow hB6 HB3.out.size out
  generalize hw7 : w6.setRow w3.heap.size out = w7 at hd7 hr7 hB7
  have HW7 := Lib.hid hw7
  have HD7 := Lib.hid hd7
  have HR7 := Lib.hid hr7
  have HB7 := Lib.hid hB7
  have HD6 := Lib.hid hd6
  have HSPL := Lib.hid hspl
  have HL := Lib.hid hl
  have HO1 := Lib.hid ho1
  have HO2 := Lib.hid ho2
  have HO3 := Lib.hid ho3
  have hsrc : ∀ j u, out.toList[j]? = some u → w6.cell? ((⟨q, 0, none⟩ : Addr).add j) = some u := fun j u hj => by
    rw [addr_add, Nat.zero_add]
    exact hcell j u (by simpa using hj)
  have HSRC := Lib.hid hsrc
  clear hb6 hq hcell ho1 ho2 ho3 hd6 hr6 hl hspl hB6 hne hd7 hr7 hB7 hw7 hsrc
  dsimp only
  go_wp2_with (first
    | (refine wpList_copy_own rfl (.tmp 9) (.tmp 11) 24 24 rfl 5 underlying24 size5 w3.heap.size 0 32 32 ⟨q, 0, none⟩ 32 cap (by kernel_rfl) (by kernel_rfl) zero32 58 HD6.out out.toList (by rw [HL.out]; rfl) HSRC.out (by rw [HL.out]; decide) (fun u hu => HO1.out u (by simpa using hu)) ?_; rw [HSPL.out, HW7.out, HL.out])
    | (with_reducible refine wpList_load_row rfl 58 (.tmp 4) rfl w3.heap.size (by kernel_rfl) 58 out (0, 0) _ HD7.out hu58 rfl HO3.out ?_)
    | (with_reducible refine wpList_store_row rfl 58 (.tmp 2) (.tmp 13) rfl w.heap.size out (by kernel_rfl) (by kernel_rfl) 58 zero32 HR7.out HO3.out (HO2.out.symm ▸ rfl) (all_of_one HO1.out) ?_))
  exact bodyPost_ret (results_cell_row rfl _ _ w.heap.size 58 out (0, 0) _ (by kernel_rfl) (setRow_heap w7 w.heap.size zero32 _ 58 _ HR7.out) hu58 rfl HO3.out) rfl ⟨by rw [HO.out], below_setRow HB7.out (Nat.le_refl _) out⟩
end Go.Proofs.YtgnmgkpfgmpdfaaGreatDoor
end

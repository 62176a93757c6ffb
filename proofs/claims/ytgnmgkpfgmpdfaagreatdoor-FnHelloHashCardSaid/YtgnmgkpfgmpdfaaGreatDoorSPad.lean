/- sha256's Write, nothing waiting, whole blocks. -/
import Derived.Test.YtgnmgkpfgmpdfaaGreatDoorSOwn
import Derived.WalkKit
import Derived.LoopTactic
import Derived.StillTailTactics
set_option linter.unusedVariables false
set_option linter.unusedSimpArgs false
section
namespace Go.Proofs.YtgnmgkpfgmpdfaaGreatDoor
open Go.RowKit

set_option maxHeartbeats 2000000 in
set_option maxRecDepth 100000 in
theorem write_b (g b off n c : Nat) (s : St8) (x d : Nat → UInt8) (len : Nat) (cs : Array Value) (w : World) (hn : 64 ≤ n) (hn1 : n ≤ 65535) (hnc : n ≤ c) (hc : c ≤ 9223372036854775807) (hlen : len ≤ 1000000) (hr : n % 64 = 0)
    (hdat : ∀ j, j < n → w.cell? ⟨b, off + j, none⟩ = some (.int .u8 ((d j).toNat : Int)))
    (hbg : b ≠ g) (hK : ∀ j, j < 64 → w.cell? ⟨4, j, none⟩ = some (.int .u32 (Kc.getD j 0))) (hg4 : 4 ≠ g) (hg : w.heap[g]? = some (.cells cs 235 (0, 0))) (hs : Dig cs s x 0 len) :
    Calls Tryz.prog 98 #[.pointer (some ⟨g, 0, none⟩), .slice (some ⟨b, off, none⟩) n c] w fun e w' => e = .returned (.tuple #[.int .i64 n, .nilIface]) ∧ Chg w w' (fun i => i = g) ∧
      ∃ cs', w'.heap[g]? = some (.cells cs' 235 (0, 0)) ∧ Dig cs' (shaN d s (n / 64)) (fun _ => 0) 0 (len + n) := by
  have HD := Lib.hid hdat
  have HK := Lib.hid hK
  have HS := Lib.hid hs
  have h73 := (bcell hg 73).trans hs.len
  have h72 := (bcell hg 72).trans hs.nx
  have f73 := bfrozen hg 73
  have hw73 : IntKind.u64.wrap ((len : Int) + (n : Int)) = (len : Int) + n := by rw [IntKind.wrap_u64]; omega
  have hw0 : IntKind.u64.wrap (n : Int) = (n : Int) := by rw [IntKind.wrap_u64]; omega
  have g0 : (0 : Int) ≤ len := by omega
  have g64 : (64 : Int) ≤ (n : Int) := by omega
  obtain ⟨m, hm⟩ : ∃ m, m = 64 * (n / 64) := ⟨_, rfl⟩
  have hand := andNot63 n (by omega)
  rw [← hm] at hand
  have g65 : (m : Int) ≤ 65536 := by omega
  have gm0 : (0 : Int) ≤ m := by omega
  have gmc : (m : Int) ≤ c := by omega
  have hmn : m ≤ n := by omega
  have hmc : m ≤ c := by omega
  have g0n : ¬ (0 : Int) < (n : Int) - m := by omega
  have gmnN : n - m = 0 := by omega
  have HM := Lib.hid hm
  clear hm
  have HG := Lib.hid hg
  clear hdat hK hg hs
  go_enter Tryz.func98, Tryz.ntmps98
  go_wp2_with fail
  have hg1 := bset HG.out 73 (.int .u64 ((len : Int) + n))
  have hc1 : Chg w _ (fun i => i = g) := (Chg.refl w (fun i => i = g)).setCell (p := ⟨g, 73, none⟩) (.inl rfl) (.int .u64 ((len : Int) + n))
  clear h73 h72 f73
  generalize w.setCell ⟨g, 73, none⟩ (.int .u64 ((len : Int) + n)) = w1 at hg1 hc1 ⊢
  have HG1 := Lib.hid hg1
  have HC1 := Lib.hid hc1
  clear hg1 hc1
  refine wp_loop_once ?_
  go_wp2_with fail
  have hb1 : b < w1.heap.size := World.block_lt_of_cell? w1 _ (HC1.out.cell (HD.out 0 (by omega)) hbg)
  refine (block_any g b off m c s d _ w1 hmc hc (fun j hj => HC1.out.cell (HD.out j (by omega)) hbg) hb1 (fun j hj => HC1.out.cell (HK.out j hj) hg4) HG1.out (HS.out.h8.set (by omega) _)).mono ?_
  rintro e w2 ⟨rfl, hg2, hc2⟩
  have hc3 := HC1.out.trans hc2 (fun _ _ h => h)
  clear hc2
  generalize hcs2 : put8 (cs.setIfInBounds 73 (.int .u64 ((len : Int) + n))) (shaN d s (m / 64)) = cs2 at hg2
  have h75 : cs2.size = 75 := by rw [← hcs2, put8_size]; simp [HS.out.sz]
  have HCS := Lib.hid hcs2
  have HG2 := Lib.hid hg2
  have HC2 := Lib.hid hc3
  clear hcs2 hg2 hc3 h75
  have gnm2 : n ≤ m := by have hm := HM.out; omega
  by_cases hcm : c = m
  all_goals
    go_wp2_with fail
    go_ret2
    refine ⟨rfl, HC2.out, _, HG2.out, ?_⟩
    have hd := dig_full HS.out (shaN d s (n / 64)) (fun _ => 0) (len + n)
    rw [Int.natCast_add] at hd
    have e1 : m / 64 = n / 64 := by have hm := HM.out; omega
    have hcs := HCS.out
    rw [e1] at hcs
    rw [hcs] at hd
    exact hd
end Go.Proofs.YtgnmgkpfgmpdfaaGreatDoor
end

/- sha256's Write, some bytes waiting, filled up. -/
section
namespace Go.Proofs.YtgnmgkpfgmpdfaaGreatDoor
open Go.RowKit

/-- What waits, and what comes. -/
def joinD (x d : Nat → UInt8) (r : Nat) (i : Nat) : UInt8 := if i < r then x i else d (i - r)
/-- The row behind the copy and the count: filled up. -/
def filled (cs : Array Value) (r n len' : Nat) (d : Nat → UInt8) : Array Value := (spl (cs.setIfInBounds 73 (.int .u64 (len' : Int))) (8 + r) (bytesAt d 0 n)).setIfInBounds 72 (.int .i64 64)
theorem filled_get {cs : Array Value} {s : St8} {x : Nat → UInt8} {r len : Nat} (h : Dig cs s x r len) (d : Nat → UInt8) (n len' : Nat) (hr : r + n = 64) {j : Nat} (hj : j < 64) :
    (filled cs r n len' d)[8 + j]? = some (.int .u8 ((joinD x d r j).toNat : Int)) := by
  have hl := bytesAt_length d 0 n
  have hfit : 8 + r + (bytesAt d 0 n).length ≤ (cs.setIfInBounds 73 (.int .u64 (len' : Int))).size := by simp [h.sz]; omega
  unfold filled
  rw [set_ne _ (by omega)]
  unfold joinD
  by_cases hjr : j < r
  · rw [if_pos hjr, spl_out _ _ _ hfit (.inl (by omega)), set_ne _ (by omega)]
    exact h.xs j hjr
  · rw [if_neg hjr]
    obtain ⟨i, rfl⟩ : ∃ i, j = r + i := ⟨j - r, by omega⟩
    rw [← Nat.add_assoc, spl_in _ _ _ hfit (by omega)]
    have hi : i < n := by omega
    simp [bytesAt, hi]
theorem filled_has {cs : Array Value} {s : St8} {x : Nat → UInt8} {r len : Nat} (h : Dig cs s x r len) (d : Nat → UInt8) (n len' : Nat) (hr : r + n = 64) : Has8 (filled cs r n len' d) s := by
  have hl := bytesAt_length d 0 n
  have hfit : 8 + r + (bytesAt d 0 n).length ≤ (cs.setIfInBounds 73 (.int .u64 (len' : Int))).size := by simp [h.sz]; omega
  refine (h.h8.set (i := 73) (by omega) (.int .u64 (len' : Int))).congr (fun j hj => ?_)
  unfold filled
  rw [set_ne _ (by omega), spl_out _ _ _ hfit (.inl (by omega))]
theorem filled_size {cs : Array Value} {s : St8} {x : Nat → UInt8} {r len : Nat} (h : Dig cs s x r len) (d : Nat → UInt8) (n len' : Nat) (hr : r + n = 64) : (filled cs r n len' d).size = 75 := by
  have hl := bytesAt_length d 0 n
  have hfit : 8 + r + (bytesAt d 0 n).length ≤ (cs.setIfInBounds 73 (.int .u64 (len' : Int))).size := by simp [h.sz]; omega
  unfold filled
  rw [Array.size_setIfInBounds, spl_size _ _ _ hfit]
  simp [h.sz]
/-- The digest behind a Write that filled up and left nothing waiting. -/
theorem dig_fill {cs : Array Value} {s : St8} {x : Nat → UInt8} {r len : Nat} (h : Dig cs s x r len) (d y : Nat → UInt8) (n len' : Nat) (hr : r + n = 64) (s1 : St8) :
    Dig ((put8 (filled cs r n len' d) s1).setIfInBounds 72 (.int .i64 0)) s1 y 0 len' := by
  have hl := bytesAt_length d 0 n
  have hfit : 8 + r + (bytesAt d 0 n).length ≤ (cs.setIfInBounds 73 (.int .u64 (len' : Int))).size := by simp [h.sz]; omega
  have hz := filled_size h d n len' hr
  refine ⟨by rw [Array.size_setIfInBounds, put8_size, hz], ?_, fun j hj => by omega, ?_, ?_, ?_, ?_⟩
  · exact (put8_has _ s1 (by omega)).set (by omega) _
  · exact set_same _ (by rw [put8_size, hz]; omega) _
  · rw [set_ne _ (by omega), put8_out _ _ (by omega)]
    unfold filled
    rw [set_ne _ (by omega), spl_out _ _ _ hfit (.inr (by omega))]
    exact set_same _ (by have := h.sz; omega) _
  · rw [set_ne _ (by omega), put8_out _ _ (by omega)]
    unfold filled
    rw [set_ne _ (by omega), spl_out _ _ _ hfit (.inr (by omega)), set_ne _ (by omega)]
    exact h.no
  · exact one_set (one_put8 (one_set (one_spl (one_set h.one 73 rfl) _ bytesAt_one) 72 rfl) s1) 72 rfl
set_option maxHeartbeats 2000000 in
set_option maxRecDepth 100000 in
theorem write_d0 (g b off n r : Nat) (s : St8) (x d : Nat → UInt8) (len : Nat) (cs : Array Value) (w : World) (hr0 : 0 < r) (hr1 : r < 64) (hn : n = 64 - r) (hlen : len ≤ 1000000)
    (hdat : ∀ j, j < n → w.cell? ⟨b, off + j, none⟩ = some (.int .u8 ((d j).toNat : Int)))
    (hbg : b ≠ g) (hK : ∀ j, j < 64 → w.cell? ⟨4, j, none⟩ = some (.int .u32 (Kc.getD j 0))) (hg4 : 4 ≠ g) (hg : w.heap[g]? = some (.cells cs 235 (0, 0))) (hs : Dig cs s x r len) :
    Calls Tryz.prog 98 #[.pointer (some ⟨g, 0, none⟩), .slice (some ⟨b, off, none⟩) n 72] w fun e w' => e = .returned (.tuple #[.int .i64 n, .nilIface]) ∧ Chg w w' (fun i => i = g) ∧
      ∃ cs', w'.heap[g]? = some (.cells cs' 235 (0, 0)) ∧ Dig cs' (shaN (joinD x d r) s 1) (fun _ => 0) 0 (len + n) := by
  have HD := Lib.hid hdat
  have HK := Lib.hid hK
  have HS := Lib.hid hs
  have h73 := (bcell hg 73).trans hs.len
  have h72 := (bcell hg 72).trans hs.nx
  have f73 := bfrozen hg 73
  have hw73 : IntKind.u64.wrap ((len : Int) + (n : Int)) = (len : Int) + n := by rw [IntKind.wrap_u64]; omega
  have hw0 : IntKind.u64.wrap (n : Int) = (n : Int) := by rw [IntKind.wrap_u64]; omega
  have g0 : (0 : Int) ≤ len := by omega
  have gn1 : (1 : Int) ≤ n := by omega
  have gn63 : (n : Int) ≤ 63 := by omega
  have gr1 : (0 : Int) < r := by omega
  have gr64 : (r : Int) ≤ 64 := by omega
  have gr65 : ¬ 64 = r := by omega
  have grn : (r : Int) + (n : Int) = 64 := by omega
  have gnn : n ≤ 72 := by omega
  have g72 : ¬ 72 = n := by omega
  have HN := Lib.hid hn
  have HG := Lib.hid hg
  clear hdat hK hg hs hn
  go_enter Tryz.func98, Tryz.ntmps98
  go_wp2_with fail
  have hg1 : (w.setCell ⟨g, 73, none⟩ (.int .u64 ((len : Int) + n))).drew.heap[g]? = _ := bset HG.out 73 (.int .u64 ((len : Int) + n))
  have hc1 : Chg w (w.setCell ⟨g, 73, none⟩ (.int .u64 ((len : Int) + n))).drew (fun i => i = g) := ((Chg.refl w (fun i => i = g)).setCell (p := ⟨g, 73, none⟩) (.inl rfl) (.int .u64 ((len : Int) + n))).drew
  clear h73 h72 f73
  generalize w.setCell ⟨g, 73, none⟩ (.int .u64 ((len : Int) + n)) = w1 at hg1 hc1 ⊢
  have j72 : w1.drew.cell? ⟨g, 72, none⟩ = _ := (bcell hg1 72).trans ((set_ne cs (by omega) _).trans HS.out.nx)
  generalize hcs1 : cs.setIfInBounds 73 (.int .u64 ((len : Int) + n)) = cs1 at hg1
  have h75 : cs1.size = 75 := by rw [← hcs1]; simp [HS.out.sz]
  have HG1 := Lib.hid hg1
  have HC1 := Lib.hid hc1
  have HCS := Lib.hid hcs1
  have H75 := Lib.hid h75
  clear hg1 hc1 hcs1 h75
  go_still_tail 9, (by kernel_rfl)
  change wpList _ _ _ _ _ w1.drew
  generalize World.drew w1 = w2 at HG1 HC1 j72 ⊢
  have hfit1 : 8 + r + (bytesAt d 0 n).length ≤ cs1.size := by rw [bytesAt_length, H75.out]; have := HN.out; omega
  have HF1 := Lib.hid hfit1
  have hlen1 : (bytesAt d 0 n).length = Nat.min n (64 - r) := by
    rw [bytesAt_length]
    exact (Nat.min_eq_left (by have := HN.out; omega)).symm
  have HL1 := Lib.hid hlen1
  have hsrc : ∀ j v, (bytesAt d 0 n)[j]? = some v → w2.cell? ((⟨b, off, none⟩ : Addr).add j) = some v := by
    intro j v hv
    obtain ⟨hj, rfl⟩ := bytesAt_get hv
    have h1 := HC1.out.cell (HD.out j (by omega)) hbg
    rw [addr_add, Nat.zero_add]
    exact h1
  have HSRC := Lib.hid hsrc
  have hg3 := setRow_heap w2 g cs1 (spl cs1 (8 + r) (bytesAt d 0 n)) 235 _ HG1.out
  have hc3 := HC1.out.trans (setRow_chg w2 g (spl cs1 (8 + r) (bytesAt d 0 n))) (fun _ _ h => h)
  have k72 := (bcell hg3 72).trans ((spl_out _ _ _ HF1.out (.inr (by rw [bytesAt_length]; have := HN.out; omega))).trans ((bcell HG1.out 72).symm.trans j72))
  have f72 := bfrozen hg3 72
  have HG3 := Lib.hid hg3
  have HC3 := Lib.hid hc3
  generalize hw3 : w2.setRow g (spl cs1 (8 + r) (bytesAt d 0 n)) = w3 at HG3 HC3 k72 f72
  have HW3 := Lib.hid hw3
  clear hsrc hg3 hc3 hw3 hlen1 hfit1 j72
  go_wp2_with (refine wpList_copy_own rfl (.tmp 31) (.tmp 32) 24 24 rfl 5 underlying24 size5 g (8 + r) (64 - r) (64 - r) ⟨b, off, none⟩ n 72 (by kernel_rfl) (by kernel_rfl) cs1 235 HG1.out (bytesAt d 0 n) HL1.out HSRC.out HF1.out bytesAt_one ?_; change wpList _ _ _ _ _ (w2.setRow g (spl cs1 (8 + r) (bytesAt d 0 n))); rw [HW3.out, bytesAt_length])
  clear k72 f72
  have hg4' := bset HG3.out 72 (.int .i64 64)
  have hc4 := HC3.out.setCell (p := ⟨g, 72, none⟩) (.inl rfl) (.int .i64 64)
  generalize w3.setCell ⟨g, 72, none⟩ (.int .i64 64) = w4 at hg4' hc4 ⊢
  have hcs3 : (spl cs1 (8 + r) (bytesAt d 0 n)).setIfInBounds 72 (.int .i64 64) = filled cs r n (len + n) d := by
    rw [← HCS.out]
    unfold filled
    rw [Int.natCast_add]
  rw [hcs3] at hg4'
  have HG4 := Lib.hid hg4'
  have HC4 := Lib.hid hc4
  clear hg4' hc4 hcs3
  have hrn : r + n = 64 := by omega
  have hz := filled_size HS.out d n (len + n) hrn
  have HRN := Lib.hid hrn
  have HZ := Lib.hid hz
  clear hrn hz
  refine (block_any g g 8 64 64 s (joinD x d r) _ w4 (by omega) (by omega) (fun j hj => (bcell HG4.out (8 + j)).trans (filled_get HS.out d n (len + n) HRN.out hj)) (blt HG4.out) (fun j hj => HC4.out.cell (HK.out j hj) hg4) HG4.out (filled_has HS.out d n (len + n) HRN.out)).mono ?_
  rintro e w5 ⟨rfl, hg5, hc5⟩
  have hc6 := HC4.out.trans hc5 (fun _ _ h => h)
  have k72 := (bcell hg5 72).trans (Array.getElem?_eq_getElem (by rw [put8_size, HZ.out]; omega))
  have f72 := bfrozen hg5 72
  have HG5 := Lib.hid hg5
  have HC5 := Lib.hid hc6
  clear hg5 hc5 hc6
  dsimp only
  go_wp2_with fail
  go_ret2
  exact ⟨rfl, HC5.out.setCell (p := ⟨g, 72, none⟩) (.inl rfl) _, _, bset HG5.out 72 _, dig_fill HS.out d (fun _ => 0) n (len + n) HRN.out _⟩
end Go.Proofs.YtgnmgkpfgmpdfaaGreatDoor
end

/- sha256's Write, some bytes waiting, filled up, and one block more. -/
section
namespace Go.Proofs.YtgnmgkpfgmpdfaaGreatDoor
open Go.RowKit

theorem dig_put8 {cs : Array Value} {s : St8} {x : Nat → UInt8} {nx len : Nat} (h : Dig cs s x nx len) (s1 : St8) : Dig (put8 cs s1) s1 x nx len := by
  have h75 := h.sz
  refine ⟨by rw [put8_size, h75], put8_has _ s1 (by omega), fun j hj => ?_, ?_, ?_, ?_, one_put8 h.one s1⟩
  · rw [put8_out _ _ (by omega)]; exact h.xs j hj
  · rw [put8_out _ _ (by omega)]; exact h.nx
  · rw [put8_out _ _ (by omega)]; exact h.len
  · rw [put8_out _ _ (by omega)]; exact h.no
set_option maxHeartbeats 2000000 in
set_option maxRecDepth 100000 in
theorem write_d1 (g b off n k r : Nat) (s : St8) (x d : Nat → UInt8) (len : Nat) (cs : Array Value) (w : World) (hr0 : 56 ≤ r) (hr1 : r < 64) (hk : k = 64 - r) (hn : n = 64 + k) (hlen : len ≤ 1000000)
    (hdat : ∀ j, j < n → w.cell? ⟨b, off + j, none⟩ = some (.int .u8 ((d j).toNat : Int)))
    (hbg : b ≠ g) (hK : ∀ j, j < 64 → w.cell? ⟨4, j, none⟩ = some (.int .u32 (Kc.getD j 0))) (hg4 : 4 ≠ g) (hg : w.heap[g]? = some (.cells cs 235 (0, 0))) (hs : Dig cs s x r len) :
    Calls Tryz.prog 98 #[.pointer (some ⟨g, 0, none⟩), .slice (some ⟨b, off, none⟩) n 72] w fun e w' => e = .returned (.tuple #[.int .i64 n, .nilIface]) ∧ Chg w w' (fun i => i = g) ∧
      ∃ cs', w'.heap[g]? = some (.cells cs' 235 (0, 0)) ∧ Dig cs' (blk1 (fun i => d (k + i)) 0 (shaN (joinD x d r) s 1)) (fun _ => 0) 0 (len + n) := by
  have HD := Lib.hid hdat
  have HK := Lib.hid hK
  have HS := Lib.hid hs
  have h73 := (bcell hg 73).trans hs.len
  have h72 := (bcell hg 72).trans hs.nx
  have f73 := bfrozen hg 73
  have hw73 : IntKind.u64.wrap ((len : Int) + (n : Int)) = (len : Int) + n := by rw [IntKind.wrap_u64]; omega
  have hw0 : IntKind.u64.wrap (n : Int) = (n : Int) := by rw [IntKind.wrap_u64]; omega
  have g0 : (0 : Int) ≤ len := by omega
  have gn1 : (1 : Int) ≤ n := by omega
  have gk8 : (k : Int) ≤ 8 := by omega
  have gk1 : (1 : Int) ≤ k := by omega
  have gr1 : (0 : Int) < r := by omega
  have gr64 : (r : Int) ≤ 64 := by omega
  have gr65 : ¬ 64 = r := by omega
  have grn : (r : Int) + (k : Int) = 64 := by omega
  have gnn : n ≤ 72 := by omega
  have g72 : ¬ 72 = k := by omega
  have hkn : k ≤ n := by omega
  have hknI : (k : Int) ≤ n := by omega
  have gnk : n - k = 64 := by omega
  have hand : bits .andNot .i64 64 63 = 64 := by decide
  have HN := Lib.hid hn
  have HK2 := Lib.hid hk
  have HG := Lib.hid hg
  clear hdat hK hg hs hn hk
  go_enter Tryz.func98, Tryz.ntmps98
  go_wp2_with fail
  have hg1 : (w.setCell ⟨g, 73, none⟩ (.int .u64 ((len : Int) + n))).drew.heap[g]? = _ := bset HG.out 73 (.int .u64 ((len : Int) + n))
  have hc1 : Chg w (w.setCell ⟨g, 73, none⟩ (.int .u64 ((len : Int) + n))).drew (fun i => i = g) := ((Chg.refl w (fun i => i = g)).setCell (p := ⟨g, 73, none⟩) (.inl rfl) (.int .u64 ((len : Int) + n))).drew
  clear h73 h72 f73
  generalize w.setCell ⟨g, 73, none⟩ (.int .u64 ((len : Int) + n)) = w1 at hg1 hc1 ⊢
  have j72 : w1.drew.cell? ⟨g, 72, none⟩ = _ := (bcell hg1 72).trans ((set_ne cs (by omega) _).trans HS.out.nx)
  generalize hcs1 : cs.setIfInBounds 73 (.int .u64 ((len : Int) + n)) = cs1 at hg1
  have h75 : cs1.size = 75 := by rw [← hcs1]; simp [HS.out.sz]
  have HG1 := Lib.hid hg1
  have HC1 := Lib.hid hc1
  have HCS := Lib.hid hcs1
  have H75 := Lib.hid h75
  clear hg1 hc1 hcs1 h75
  go_still_tail 9, (by kernel_rfl)
  change wpList _ _ _ _ _ w1.drew
  generalize World.drew w1 = w2 at HG1 HC1 j72 ⊢
  have hfit1 : 8 + r + (bytesAt d 0 k).length ≤ cs1.size := by rw [bytesAt_length, H75.out]; have := HK2.out; omega
  have HF1 := Lib.hid hfit1
  have hlen1 : (bytesAt d 0 k).length = Nat.min n (64 - r) := by
    rw [bytesAt_length]
    have h1 := HN.out
    have h2 := HK2.out
    rw [← h2]
    exact (Nat.min_eq_right (by omega)).symm
  have HL1 := Lib.hid hlen1
  have hsrc : ∀ j v, (bytesAt d 0 k)[j]? = some v → w2.cell? ((⟨b, off, none⟩ : Addr).add j) = some v := by
    intro j v hv
    obtain ⟨hj, rfl⟩ := bytesAt_get hv
    have h1 := HC1.out.cell (HD.out j (by have := HN.out; omega)) hbg
    rw [addr_add, Nat.zero_add]
    exact h1
  have HSRC := Lib.hid hsrc
  have hg3 := setRow_heap w2 g cs1 (spl cs1 (8 + r) (bytesAt d 0 k)) 235 _ HG1.out
  have hc3 := HC1.out.trans (setRow_chg w2 g (spl cs1 (8 + r) (bytesAt d 0 k))) (fun _ _ h => h)
  have k72 := (bcell hg3 72).trans ((spl_out _ _ _ HF1.out (.inr (by rw [bytesAt_length]; have := HN.out; have := HK2.out; omega))).trans ((bcell HG1.out 72).symm.trans j72))
  have f72 := bfrozen hg3 72
  have HG3 := Lib.hid hg3
  have HC3 := Lib.hid hc3
  generalize hw3 : w2.setRow g (spl cs1 (8 + r) (bytesAt d 0 k)) = w3 at HG3 HC3 k72 f72
  have HW3 := Lib.hid hw3
  clear hsrc hg3 hc3 hw3 hlen1 hfit1 j72
  go_wp2_with (refine wpList_copy_own rfl (.tmp 31) (.tmp 32) 24 24 rfl 5 underlying24 size5 g (8 + r) (64 - r) (64 - r) ⟨b, off, none⟩ n 72 (by kernel_rfl) (by kernel_rfl) cs1 235 HG1.out (bytesAt d 0 k) HL1.out HSRC.out HF1.out bytesAt_one ?_; change wpList _ _ _ _ _ (w2.setRow g (spl cs1 (8 + r) (bytesAt d 0 k))); rw [HW3.out, bytesAt_length])
  clear k72 f72
  have hg4' := bset HG3.out 72 (.int .i64 64)
  have hc4 := HC3.out.setCell (p := ⟨g, 72, none⟩) (.inl rfl) (.int .i64 64)
  generalize w3.setCell ⟨g, 72, none⟩ (.int .i64 64) = w4 at hg4' hc4 ⊢
  have hcs3 : (spl cs1 (8 + r) (bytesAt d 0 k)).setIfInBounds 72 (.int .i64 64) = filled cs r k (len + n) d := by
    rw [← HCS.out]
    unfold filled
    rw [Int.natCast_add]
  rw [hcs3] at hg4'
  have HG4 := Lib.hid hg4'
  have HC4 := Lib.hid hc4
  clear hg4' hc4 hcs3
  have hrn : r + k = 64 := by omega
  have hz := filled_size HS.out d k (len + n) hrn
  have HRN := Lib.hid hrn
  have HZ := Lib.hid hz
  clear hrn hz
  refine (block_any g g 8 64 64 s (joinD x d r) _ w4 (by omega) (by omega) (fun j hj => (bcell HG4.out (8 + j)).trans (filled_get HS.out d k (len + n) HRN.out hj)) (blt HG4.out) (fun j hj => HC4.out.cell (HK.out j hj) hg4) HG4.out (filled_has HS.out d k (len + n) HRN.out)).mono ?_
  rintro e w5 ⟨rfl, hg5, hc5⟩
  have hc6 := HC4.out.trans hc5 (fun _ _ h => h)
  have k72 := (bcell hg5 72).trans (Array.getElem?_eq_getElem (by rw [put8_size, HZ.out]; omega))
  have f72 := bfrozen hg5 72
  have HG5 := Lib.hid hg5
  have HC5 := Lib.hid hc6
  clear hg5 hc5 hc6
  dsimp only
  go_wp2_with fail
  clear k72 f72
  have hg6 := bset HG5.out 72 (.int .i64 0)
  have hc6 := HC5.out.setCell (p := ⟨g, 72, none⟩) (.inl rfl) (.int .i64 0)
  generalize w5.setCell ⟨g, 72, none⟩ (.int .i64 0) = w6 at hg6 hc6 ⊢
  have hd6 := dig_fill HS.out d (fun _ => 0) k (len + n) HRN.out (shaN (joinD x d r) s (64 / 64))
  have HG6 := Lib.hid hg6
  have HC6 := Lib.hid hc6
  have HD6 := Lib.hid hd6
  clear hg6 hc6 hd6
  refine wp_loop_once ?_
  go_wp2_with fail
  have hdat6 : ∀ j, j < 64 → w6.cell? ⟨b, off + k + j, none⟩ = some (.int .u8 ((d (k + j)).toNat : Int)) := fun j hj => by
    have h1 := HC6.out.cell (HD.out (k + j) (by omega)) hbg
    rw [← Nat.add_assoc] at h1
    exact h1
  refine (block_any g b (off + k) 64 (72 - k) _ (fun i => d (k + i)) _ w6 (by omega) (by omega) hdat6 (World.block_lt_of_cell? w6 _ (hdat6 0 (by omega))) (fun j hj => HC6.out.cell (HK.out j hj) hg4) HG6.out HD6.out.h8).mono ?_
  rintro e w7 ⟨rfl, hg7, hc7⟩
  have hc8 := HC6.out.trans hc7 (fun _ _ h => h)
  have HG7 := Lib.hid hg7
  have HC7 := Lib.hid hc8
  clear hg7 hc7 hc8 hdat6
  dsimp only
  by_cases h8 : 72 - k = 64
  all_goals
    go_wp2_with fail
    go_ret2
    exact ⟨rfl, HC7.out, _, HG7.out, dig_put8 HD6.out _⟩
end Go.Proofs.YtgnmgkpfgmpdfaaGreatDoor
end

/- sha256's Write of the padding, whatever waits. -/
section
namespace Go.Proofs.YtgnmgkpfgmpdfaaGreatDoor
open Go.RowKit

/-- How many zeros and the one bit. -/
def padT (r : Nat) : Nat := if r < 56 then 56 - r else 120 - r
theorem write_pad (g b n r : Nat) (s : St8) (x d : Nat → UInt8) (len : Nat) (cs : Array Value) (w : World) (hr : r < 64) (hn : n = padT r + 8) (hlen : len ≤ 1000000)
    (hdat : ∀ j, j < n → w.cell? ⟨b, 0 + j, none⟩ = some (.int .u8 ((d j).toNat : Int)))
    (hbg : b ≠ g) (hK : ∀ j, j < 64 → w.cell? ⟨4, j, none⟩ = some (.int .u32 (Kc.getD j 0))) (hg4 : 4 ≠ g) (hg : w.heap[g]? = some (.cells cs 235 (0, 0))) (hs : Dig cs s x r len) :
    Calls Tryz.prog 98 #[.pointer (some ⟨g, 0, none⟩), .slice (some ⟨b, 0, none⟩) n 72] w fun e w' => e = .returned (.tuple #[.int .i64 n, .nilIface]) ∧ Chg w w' (fun i => i = g) ∧
      ∃ cs', w'.heap[g]? = some (.cells cs' 235 (0, 0)) ∧ Dig cs' (shaN (joinD x d r) s ((r + n) / 64)) (fun _ => 0) 0 (len + n) := by
  unfold padT at hn
  by_cases h0 : r = 0
  · subst h0
    simp only [Nat.zero_lt_succ, if_true, Nat.sub_zero, Nat.reduceAdd] at hn
    subst hn
    refine (write_b g b 0 64 72 s x d len cs w (by omega) (by omega) (by omega) (by omega) hlen rfl hdat hbg hK hg4 hg hs).mono ?_
    rintro e w' ⟨he, hc, cs', h1, h2⟩
    refine ⟨he, hc, cs', h1, ?_⟩
    rw [shaN_congr (d' := d) s ((0 + 64) / 64) (fun i _ => by simp [joinD])]
    exact h2
  · by_cases h56 : r < 56
    · rw [if_pos h56] at hn
      refine (write_d0 g b 0 n r s x d len cs w (by omega) hr (by omega) hlen hdat hbg hK hg4 hg hs).mono ?_
      rintro e w' ⟨he, hc, cs', h1, h2⟩
      refine ⟨he, hc, cs', h1, ?_⟩
      have e1 : (r + n) / 64 = 1 := by omega
      rw [e1]
      exact h2
    · rw [if_neg h56] at hn
      refine (write_d1 g b 0 n (64 - r) r s x d len cs w (by omega) hr rfl (by omega) hlen hdat hbg hK hg4 hg hs).mono ?_
      rintro e w' ⟨he, hc, cs', h1, h2⟩
      refine ⟨he, hc, cs', h1, ?_⟩
      have e1 : (r + n) / 64 = 1 + 1 := by omega
      have e2 : shaN (joinD x d r) s (1 + 1) = blk1 (fun i => d (64 - r + i)) 0 (shaN (joinD x d r) s 1) := by
        rw [shaN]
        refine blk1_congr (fun i hi => ?_) _
        unfold joinD
        rw [if_neg (by omega)]
        congr 1
        omega
      rw [e1, e2]
      exact h2
end Go.Proofs.YtgnmgkpfgmpdfaaGreatDoor
end

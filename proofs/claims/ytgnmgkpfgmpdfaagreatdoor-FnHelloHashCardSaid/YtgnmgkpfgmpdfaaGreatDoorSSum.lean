/- sha256's Sum. -/
import Derived.Test.YtgnmgkpfgmpdfaaGreatDoorSCheck
import Derived.Test.YtgnmgkpfgmpdfaaGreatDoorSOwn
set_option linter.unusedVariables false
set_option linter.unusedSimpArgs false
namespace Go.Proofs.YtgnmgkpfgmpdfaaGreatDoor
open Go.RowKit

theorem hu235 : ∃ fs, Tryz.prog.underlying 235 = some (.struct fs) := ⟨_, Tryz.underlying235⟩
theorem hi235 {cs : Array Value} (h : cs.size = 75) : (Tryz.prog.info? 235).map (·.size) = some cs.size := by rw [h]; kernel_rfl
theorem z235 : Tryz.zeroCells235.size = 75 := by kernel_rfl
/-- The digest of what was written. -/
def sumOf (s : St8) (x : Nat → UInt8) (r len : Nat) : Array Value := outN (shaN (joinD x (padD len (padT r)) r) s ((r + (padT r + 8)) / 64)) 8
theorem sumOf_one (s : St8) (x : Nat → UInt8) (r len : Nat) : ∀ u ∈ sumOf s x r len, u.oneCell' = true := outN_one _
theorem sumOf_size (s : St8) (x : Nat → UInt8) (r len : Nat) : (sumOf s x r len).size = 32 := outN_size _ 8
set_option maxHeartbeats 2000000 in
set_option maxRecDepth 100000 in
theorem sum_any (g r : Nat) (s : St8) (x : Nat → UInt8) (len : Nat) (cs : Array Value) (w : World) (hr : len % 64 = r) (hlen : len ≤ 1000000)
    (hK : ∀ j, j < 64 → w.cell? ⟨4, j, none⟩ = some (.int .u32 (Kc.getD j 0))) (hg : w.heap[g]? = some (.cells cs 235 (0, 0))) (hs : Dig cs s x r len) :
    Calls Tryz.prog 99 #[.pointer (some ⟨g, 0, none⟩), .slice none 0 0] w fun e w' => ∃ q cap, e = .returned (.slice (some ⟨q, 0, none⟩) 32 cap) ∧ Below w.heap.size w w' ∧ 32 ≤ cap ∧ w.heap.size ≤ q ∧
      ∀ j u, (sumOf s x r len)[j]? = some u → w'.cell? ⟨q, j, none⟩ = some u := by
  have HK := Lib.hid hK
  have HS := Lib.hid hs
  have HG := Lib.hid hg
  have HR := Lib.hid hr
  obtain ⟨fs, hu⟩ := hu235
  have hu5 := Lib.hid hu
  have h75 := Lib.hid hs.sz
  clear hK hs hg hr hu
  go_enter Tryz.func99, Tryz.ntmps99
  go_wp2_with (first | (with_reducible refine wpList_load_row rfl 235 (.tmp 8) rfl g (by kernel_rfl) 235 cs (0, 0) _ HG.out hu5.out rfl (hi235 h75.out) ?_) | (with_reducible refine wpList_store_row rfl 235 (.tmp 5) (.tmp 9) rfl w.heap.size cs (by kernel_rfl) (by kernel_rfl) 235 Tryz.zeroCells235 (heap_alloc_new w _) (hi235 h75.out) (by rw [z235, h75.out]) (all_of_one HS.out.one) ?_; rw [setRow_alloc]))
  have hB := (Below.refl w.heap.size w).alloc (Nat.le_refl _) (.cells cs 235)
  have hd := HS.out
  refine (check_any w.heap.size r s x len cs _ HR.out hlen (fun j hj => bcellv hB (HK.out j hj)) (fun e => by have := World.block_lt_of_cell? w _ (HK.out 0 (by omega)); simp only at this; omega) (heap_alloc_new w _) hd).mono ?_
  rintro e w1 ⟨rfl, hc1, cs1, hg1, h74⟩
  have hb1 : Below w.heap.size w w1 := (Chg.of_below hB (fun i => i = w.heap.size)).trans hc1 (fun i hi h => h) |>.to_below (Nat.le_refl _) (fun i h => by omega)
  have HB1 := Lib.hid hb1
  have HG1 := Lib.hid hg1
  have H74 := Lib.hid h74
  clear hB hd hc1 hb1 hg1 h74
  have ho1 := sumOf_one s x r len
  have ho2 := sumOf_size s x r len
  have ho3 : (Tryz.prog.info? 58).map (·.size) = some (sumOf s x r len).size := hi58 _
  change Hid _ at HB1
  generalize hO : sumOf s x r len = out at ho1 ho2 ho3
  have HO := Lib.hid hO
  change outN _ 8 = out at hO
  rw [hO]
  have j74 : ∀ o, (w1.alloc o).cell? ⟨w.heap.size, 74, none⟩ = some (.bool false) := fun o => bcellv ((Below.refl _ _).alloc (Nat.le_refl _) o) ((bcell HG1.out 74).trans H74.out)
  have hown : (w1.alloc (Obj.cells out 58)).ownsRow w.heap.size 5 1 (.slice none 0 0) 0 [] := World.ownsRow_nil _ _ _ _
  have hnews : ∀ j u, out.toList[j]? = some u → (w1.alloc (Obj.cells out 58)).cell? ⟨w1.heap.size, 0 + j, none⟩ = some u := fun j u hj => by
    rw [Nat.zero_add, bcell (heap_alloc_new w1 (Obj.cells out 58))]
    simpa using hj
  have HO1 := Lib.hid ho1
  have HO2 := Lib.hid ho2
  have HO3 := Lib.hid ho3
  have HOW := Lib.hid hown
  have HN := Lib.hid hnews
  have hsz : w.heap.size ≤ w1.heap.size := HB1.out.size
  clear hO ho1 ho2 ho3 hown hnews
  dsimp only
  go_wp2_with (first | (refine wpList_store_row (o := ⟨none, .store 58 (.tmp 6) (.tmp 10), _, _, _, _⟩) rfl 58 (.tmp 6) (.tmp 10) rfl w1.heap.size out (by kernel_rfl) (by kernel_rfl) 58 zero32 (heap_alloc_new w1 _) HO3.out (HO2.out.symm ▸ rfl) (all_of_one HO1.out) ?_; change wpList _ _ _ _ _ ((w1.alloc (Obj.cells zero32 58)).setRow w1.heap.size out); rw [setRow_alloc]) | (refine app_bytes rfl (.tmp 16) (.tmp 17) rfl w.heap.size (.slice none 0 0) 0 [] (by kernel_rfl) HOW.out w1.heap.size 0 32 32 out.toList (by kernel_rfl) (by rw [Array.length_toList, HO2.out]) HN.out (fun u hu => HO1.out u (by simpa using hu)) (by omega) (by rw [World.size_alloc]; omega) ?_; intro v' w2 hv hgr _))
  simp only [List.nil_append, Nat.zero_add] at hv
  obtain ⟨q, cap, rfl, hq, hlt, h1, h2, hcell⟩ := own_cells hv (by omega)
  have hb2 : Below w.heap.size w w2 := (HB1.out.alloc hsz _).grown hgr (by rw [World.size_alloc]; omega) (fun k hk => by simp [Value.ownBlock] at hk)
  go_ret
  refine ⟨q, cap, rfl, hb2, h1, hq, fun j u hj => hcell j u ?_⟩
  rw [HO.out] at hj
  simpa using hj
end Go.Proofs.YtgnmgkpfgmpdfaaGreatDoor

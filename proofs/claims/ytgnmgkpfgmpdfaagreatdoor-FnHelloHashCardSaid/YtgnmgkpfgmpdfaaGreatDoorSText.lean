/- protocol.EncodeCompressionMethods. -/
import Derived.Test.YtgnmgkpfgmpdfaaGreatDoorSExtNil
import Derived.WalkKit
import Derived.LoopTactic
import Derived.StillTailTactics
import Derived.Laws.BytesString
set_option linter.unusedVariables false
set_option linter.unusedSimpArgs false
section
namespace Go.Proofs.YtgnmgkpfgmpdfaaGreatDoor
open Go.RowKit

/-- The methods behind their number, the last one first. -/
def compOf (n : Nat) (m : Nat → Int) (k : Nat) : List Value := .int .u8 (n : Int) :: (List.range k).map fun j => .int .u8 (m (n - 1 - j))
theorem compOf_succ (n : Nat) (m : Nat → Int) (k : Nat) : compOf n m k ++ [.int .u8 (m (n - 1 - k))] = compOf n m (k + 1) := by simp [compOf, List.range_succ]
theorem src_new (w : World) (cs : Array Value) (j : Nat) (u : Value) (h : cs.toList[j]? = some u) : (w.alloc (Obj.cells cs 5)).cell? ⟨w.heap.size, 0 + j, none⟩ = some u := by
  rw [Nat.zero_add, bcell (heap_alloc_new w (Obj.cells cs 5))]
  simpa using h
theorem one_single {k : IntKind} {n : Int} : ∀ u ∈ [Value.int k n], u.oneCell' = true := by
  intro u hu
  obtain rfl := List.mem_singleton.1 hu
  rfl
def CompRel (n : Nat) (m : Nat → Int) (w : World) (v i : Value) (wr : World) : Prop :=
  ∃ q : Nat, q ≤ n ∧ i = .int .i64 (q : Int) ∧ wr.ownsRow w.heap.size 5 1 v (1 + (n - q)) (compOf n m (n - q)) ∧ Below w.heap.size w wr
set_option maxHeartbeats 2000000 in
set_option maxRecDepth 100000 in
theorem comp_any (bm n cap : Nat) (p : Nat → Nat) (m : Nat → Int) (w : World) (hn : 1 ≤ n) (hn1 : n ≤ 255) (hm : ∀ j, j < n → w.cell? ⟨bm, j, none⟩ = some (.pointer (some ⟨p j, 0, none⟩)) ∧ w.cell? ⟨p j, 0, none⟩ = some (.int .u8 (m j))) :
    Calls Tryz.prog 95 #[.slice (some ⟨bm, 0, none⟩) n cap] w fun e w' => ∃ v, e = .returned v ∧ w'.ownsRow w.heap.size 5 1 v (1 + n) (compOf n m n) ∧ Below w.heap.size w w' := by
  have HM := Lib.hid hm
  have gn1 : (1 : Int) ≤ (n : Int) := by omega
  have gn255 : (n : Int) ≤ 255 := by omega
  clear hm
  go_enter Tryz.func95, Tryz.ntmps95
  go_wp2_with fail
  have hB1 : Below w.heap.size w (w.alloc (Obj.cells #[Value.int IntKind.u8 (n : Int)] 5)) := (Below.refl _ _).alloc (Nat.le_refl _) _
  have hown1 : (w.alloc (Obj.cells #[Value.int IntKind.u8 (n : Int)] 5)).ownsRow w.heap.size 5 1 (.slice (some ⟨w.heap.size, 0, none⟩) 1 1) 1 (compOf n m 0) := own_new (heap_alloc_new w _) (Nat.le_refl _) (Nat.le_refl _) (by decide) rfl
  generalize w.alloc (Obj.cells #[Value.int IntKind.u8 (n : Int)] 5) = w1 at hB1 hown1 ⊢
  have HB1 := Lib.hid hB1
  have HO1 := Lib.hid hown1
  clear hB1 hown1
  go_loopw [3, 4] (fun v i wr => CompRel n m w v i wr) (fun _ i _ => (intOf i).toNat)
  case atStart => exact ⟨n, Nat.le_refl _, rfl, by rw [Nat.sub_self]; exact HO1.out, HB1.out⟩
  case round =>
    obtain ⟨q, hq, rfl, hown, hB⟩ := hrel
    by_cases hlt : 0 < q
    · have hm1 := HM.out (q - 1) (by omega)
      have c1 := (hB.cell (p := ⟨bm, q - 1, none⟩) (World.block_lt_of_cell? w _ hm1.1)).trans hm1.1
      have c2 := (hB.cell (p := ⟨p (q - 1), 0, none⟩) (World.block_lt_of_cell? w _ hm1.2)).trans hm1.2
      have g0 : (0 : Int) < q := by omega
      have g1 : (q : Int) ≤ n := by omega
      have g2 : (0 : Int) ≤ (q : Int) - 1 := by omega
      have g3 : (q : Int) - 1 < n := by omega
      have g4 : ((q : Int) - 1).toNat = q - 1 := by omega
      have hbase : w.heap.size ≤ (wr.alloc (Obj.cells #[Value.int .u8 (m (q - 1))] 5)).heap.size := by rw [World.size_alloc]; have := hB.size; omega
      have HOWN := Lib.hid hown
      have HB := Lib.hid hB
      have HBASE := Lib.hid hbase
      clear hown hB hbase
      go_wp2_with (refine app_bytes rfl (.tmp 15) (.tmp 24) rfl w.heap.size u3 (1 + (n - q)) (compOf n m (n - q)) (by kernel_rfl) (HOWN.out.alloc _) wr.heap.size 0 1 1 [.int .u8 (m (q - 1))] (by kernel_rfl) rfl (src_new wr #[.int .u8 (m (q - 1))]) one_single (by omega) HBASE.out ?_; intro v' w3 hv hgr _)
      have hb3 : Below w.heap.size w w3 := (HB.out.alloc HB.out.size _).grown hgr HBASE.out (fun k hk => by
        obtain ⟨_, h2⟩ := HOWN.out
        rcases h2 with ⟨rfl, _⟩ | ⟨g, cap', cur, rfl, hg, _⟩
        · simp [Value.ownBlock] at hk
        · simp [Value.ownBlock] at hk; omega)
      have e1 : n - 1 - (n - q) = q - 1 := by omega
      have hs := compOf_succ n m (n - q)
      rw [e1] at hs
      rw [hs] at hv
      have e2 : n - (q - 1) = n - q + 1 := by omega
      go_roundw
      case rel => exact ⟨q - 1, by omega, by go_num, by rw [e2]; exact hv, hb3⟩
      case measure => simp [intOf]; omega
    · obtain rfl : q = 0 := by omega
      simp only [Nat.sub_zero] at hown
      have HOWN := Lib.hid hown
      have HB := Lib.hid hB
      clear hown hB
      go_wp2_with fail
      go_ret
      exact ⟨u3, rfl, HOWN.out, HB.out⟩
end Go.Proofs.YtgnmgkpfgmpdfaaGreatDoor
end

/- handshake.encodeCipherSuiteIDs. -/
section
namespace Go.Proofs.YtgnmgkpfgmpdfaaGreatDoor
open Go.RowKit

def u16b (v : Int) : List Value := [.int .u8 (v / 256 % 256), .int .u8 (v % 256)]
/-- Numbers in two bytes each, behind the length of all. -/
def encOf (n : Nat) (su : Nat → Int) (k : Nat) : List Value := u16b ((n : Int) * 2) ++ (List.range k).flatMap fun j => u16b (su j)
theorem encOf_succ (n : Nat) (su : Nat → Int) (k : Nat) : encOf n su (k + 1) = encOf n su k ++ u16b (su k) := by simp [encOf, List.range_succ]
theorem encOf_length (n : Nat) (su : Nat → Int) (k : Nat) : (encOf n su k).length = 2 + 2 * k := by
  induction k with
  | zero => rfl
  | succ k ih => rw [encOf_succ, List.length_append, ih]; simp [u16b]; omega
theorem take_put2 (cur : Array Value) (m : Nat) (v : Int) (xs : List Value) (a b : Value) (hm : xs.length = m) (h : cur.toList.take (m + 2) = xs ++ [a, b]) : (put2 cur m v).toList.take (m + 2) = xs ++ u16b v := by
  unfold put2 u16b
  rw [Array.toList_setIfInBounds, Array.toList_setIfInBounds, List.take_set, List.take_set, h, ← hm, List.set_append_right _ _ (Nat.le_refl _), List.set_append_right _ _ (by omega)]
  simp
theorem own_row {w : World} {base n : Nat} {v : Value} {xs : List Value} (h : w.ownsRow base 5 1 v n xs) (hn : 0 < n) :
    ∃ g cap cur, v = .slice (some ⟨g, 0, none⟩) n cap ∧ base ≤ g ∧ w.heap[g]? = some (.cells cur 5 (0, 0)) ∧ n ≤ cap ∧ cap ≤ maxLen ∧ cur.size = cap ∧ cur.toList.take n = xs := by
  obtain ⟨hl, h2⟩ := h
  rcases h2 with ⟨_, h0⟩ | ⟨g, cap, cur, rfl, hg, hh, hc, hm, hs, ht⟩
  · omega
  · exact ⟨g, cap, cur, rfl, hg, hh, hc, hm, by omega, by simpa using ht⟩
def EncRel (n : Nat) (su : Nat → Int) (w : World) (v i : Value) (wr : World) : Prop :=
  ∃ k : Nat, k ≤ n ∧ i = .int .i64 (k : Int) ∧ wr.ownsRow w.heap.size 5 1 v (2 + 2 * k) (encOf n su k) ∧ Below w.heap.size w wr
set_option maxHeartbeats 2000000 in
set_option maxRecDepth 100000 in
theorem suites_any (bs os n cap : Nat) (su : Nat → Int) (w : World) (hn : 1 ≤ n) (hn1 : n ≤ 30000) (hm : ∀ j, j < n → w.cell? ⟨bs, os + j, none⟩ = some (.int .u16 (su j))) :
    Calls Tryz.prog 94 #[.slice (some ⟨bs, os, none⟩) n cap] w fun e w' => ∃ v, e = .returned v ∧ w'.ownsRow w.heap.size 5 1 v (2 + 2 * n) (encOf n su n) ∧ Below w.heap.size w w' := by
  have HM := Lib.hid hm
  have gn1 : (1 : Int) ≤ (n : Int) := by omega
  have gn2 : (n : Int) ≤ 30000 := by omega
  have gw : IntKind.u16.wrap ((n : Int) * 2) = (n : Int) * 2 := by rw [IntKind.wrap_u16]; omega
  have gwi : IntKind.i64.wrap ((n : Int) * 2) = (n : Int) * 2 := by rw [IntKind.wrap_i64]; omega
  clear hm
  go_enter Tryz.func94, Tryz.ntmps94
  go_wp2_with fail
  have hB1 : Below w.heap.size w (w.alloc (Obj.cells #[Value.int IntKind.u8 0, Value.int IntKind.u8 0] 5)) := (Below.refl _ _).alloc (Nat.le_refl _) _
  have hT1 : (w.alloc (Obj.cells #[Value.int IntKind.u8 0, Value.int IntKind.u8 0] 5)).heap[w.heap.size]? = _ := heap_alloc_new w _
  generalize w.alloc (Obj.cells #[Value.int IntKind.u8 0, Value.int IntKind.u8 0] 5) = w1 at hB1 hT1 ⊢
  have HB1 := Lib.hid hB1
  have HT1 := Lib.hid hT1
  clear hB1 hT1
  have hw0 : IntKind.i64.wrap 0 = 0 := by decide
  go_still_tail 10, (by kernel_rfl)
  clear hw0
  change wpList _ _ _ _ _ w1.drew
  go_wp2_with fail
  refine (be16 w.heap.size 0 2 2 ((n : Int) * 2) 5 _ w1.drew (by omega) (by omega) (by decide) HT1.out).mono ?_
  rintro e w2 ⟨rfl, hT2, hc2⟩
  have hB2 : Below w.heap.size w w2 := HB1.out.drew.trans (hc2.to_below HB1.out.size (fun i h => by omega))
  have hown : w2.ownsRow w.heap.size 5 1 (.slice (some ⟨w.heap.size, 0, none⟩) 2 2) (2 + 2 * 0) (encOf n su 0) := own_new hT2 (by omega) (Nat.le_refl _) (by decide) rfl
  have HOW := Lib.hid hown
  have HB2 := Lib.hid hB2
  clear hT2 hc2 hB2 hown
  dsimp only
  go_wp2_with fail
  go_loopw [3, 20] (fun v i wr => EncRel n su w v i wr) (fun _ i _ => n - (intOf i).toNat)
  case atStart => exact ⟨0, by omega, rfl, HOW.out, HB2.out⟩
  case round =>
    obtain ⟨k, hk, rfl, hown, hB⟩ := hrel
    have HOWN := Lib.hid hown
    have HB := Lib.hid hB
    clear hown hB
    by_cases hlt : k < n
    · have hm1 := HM.out k hlt
      have c1 := (HB.out.cell (p := ⟨bs, os + k, none⟩) (World.block_lt_of_cell? w _ hm1)).trans hm1
      clear hm1
      have hbase : w.heap.size ≤ (wr.alloc (Obj.cells #[Value.int .u8 0, Value.int .u8 0] 5)).heap.size := by rw [World.size_alloc]; have := HB.out.size; omega
      have HBASE := Lib.hid hbase
      clear hbase
      go_wp2_with (refine app_bytes rfl (.tmp 24) (.tmp 25) rfl w.heap.size u3 (2 + 2 * k) (encOf n su k) (by kernel_rfl) (HOWN.out.alloc _) wr.heap.size 0 2 2 [.int .u8 0, .int .u8 0] (by kernel_rfl) rfl (src_new wr #[.int .u8 0, .int .u8 0]) (fun u hu => by simp at hu; subst hu; rfl) (by omega) HBASE.out ?_; intro v' w3 hv hgr _)
      have hb3 : Below w.heap.size w w3 := (HB.out.alloc HB.out.size _).grown hgr HBASE.out (fun k' hk' => by
        obtain ⟨_, h2⟩ := HOWN.out
        rcases h2 with ⟨rfl, _⟩ | ⟨g, cap', cur, rfl, hg, _⟩
        · simp [Value.ownBlock] at hk'
        · simp [Value.ownBlock] at hk'; omega)
      obtain ⟨q, cap', cur, rfl, hq, hh, hc1, hc2, hcs, ht⟩ := own_row hv (by omega)
      have HT3 := Lib.hid (show w3.drew.heap[q]? = _ from hh)
      have HB3 := Lib.hid hb3
      have HTK := Lib.hid ht
      have HCS := Lib.hid hcs
      obtain ⟨L, hL⟩ : ∃ L, L = 2 + 2 * k + 2 := ⟨_, rfl⟩
      rw [← hL] at hc1 ⊢
      unfold maxLen at hc2
      have HL := Lib.hid hL
      have g1 : IntKind.i64.wrap ((L : Int) - 2) = (L : Int) - 2 := by rw [IntKind.wrap_i64]; omega
      have g2 : (2 : Int) ≤ (L : Int) := by omega
      have g6 : (0 : Int) ≤ (L : Int) - 2 := by omega
      have g7 : (L : Int) - 2 ≤ L := by omega
      have g8 : (L : Int) ≤ L + 2 := by omega
      have g9 : (L : Int) ≤ cap' := by omega
      have g10 : (cap' : Int) ≤ 9223372036854775807 := by omega
      have g3 : ((L : Int) - 2).toNat = L - 2 := by omega
      have g4 : ¬ cap' = L - 2 := by omega
      have g5 : L - (L - 2) = 2 := by omega
      clear hv hgr hh hb3 ht hL hcs
      go_still_tail 7, (by kernel_rfl)
      change wpList _ _ _ _ _ w3.drew
      go_wp2_with fail
      have HQ := Lib.hid hq
      have HC1 := Lib.hid hc1
      have HC2 := Lib.hid hc2
      refine (be16 q (L - 2) 2 (cap' - (L - 2)) (su k) 5 cur w3.drew (by omega) (by omega) (by have := HCS.out; omega) HT3.out).mono ?_
      rintro e w4 ⟨rfl, hT4, hc4⟩
      have hb4 : Below w.heap.size w w4 := HB3.out.drew.trans (hc4.to_below HB3.out.size (fun i h => by omega))
      have hl2 : L - 2 = 2 + 2 * k := by have := HL.out; omega
      have ht2 := take_put2 cur (2 + 2 * k) (su k) (encOf n su k) _ _ (encOf_length n su k) HTK.out
      have hown4 : w4.ownsRow w.heap.size 5 1 (.slice (some ⟨q, 0, none⟩) L cap') (2 + 2 * (k + 1)) (encOf n su (k + 1)) := by
        have h := own_new (base := w.heap.size) (n := L) (cap := cap') hT4 HQ.out HC1.out (by unfold maxLen; exact HC2.out) (by simp [put2, HCS.out])
        rw [hl2] at h
        have e1 : L = 2 + 2 * k + 2 := HL.out
        rw [e1] at h ⊢
        rw [ht2, ← encOf_succ] at h
        exact h
      have HO4 := Lib.hid hown4
      have HB4 := Lib.hid hb4
      clear hT4 hc4 hb4 ht2 hown4 hl2
      dsimp only
      go_wp2_with fail
      go_roundw
      case rel => exact ⟨k + 1, by omega, by go_num, HO4.out, HB4.out⟩
      case measure => simp [intOf]; omega
    · obtain rfl : k = n := by omega
      go_wp2_with fail
      go_ret
      exact ⟨u3, rfl, HOWN.out, HB.out⟩
end Go.Proofs.YtgnmgkpfgmpdfaaGreatDoor
end

/- impl.text of bytes without an error. -/
section
namespace Go.Proofs.YtgnmgkpfgmpdfaaGreatDoor
open Go.RowKit

def byteV (v : Value) : UInt8 := UInt8.ofNat (intOf v).toNat
/-- Cells as a text. -/
def strOf (l : List Value) : ByteArray := ⟨(l.map byteV).toArray⟩
theorem push_list (ns : List Int) : ∀ s : ByteArray, ns.foldl (fun r n => r.push (UInt8.ofNat n.toNat)) s = ⟨s.data ++ (ns.map fun n => UInt8.ofNat n.toNat).toArray⟩ := by
  induction ns with
  | nil => intro s; simp
  | cons n ns ih =>
    intro s
    simp only [List.foldl_cons, ih, List.map_cons]
    congr 1
    simp [ByteArray.push]
theorem conv_text (W : World) (b n c : Nat) (l : List Value) (hl : l.length = n) (h : ∀ j u, l[j]? = some u → W.cell? ⟨b, 0 + j, none⟩ = some u) (hb : ∀ u ∈ l, ∃ k : Int, u = .int .u8 k) :
    (convert 24 9 (.slice (some ⟨b, 0, none⟩) n c)).run Tryz.prog W = .ok (.string (strOf l)) W := by
  rw [run_convert_bytes_string W 24 9 5 _ _ _ underlying24 (by kernel_rfl) (by kernel_rfl)]
  have hm : (l.map intOf).map (Value.int .u8) = l := by
    rw [List.map_map]
    conv => rhs; rw [← List.map_id l]
    refine List.map_congr_left (fun u hu => ?_)
    obtain ⟨k, rfl⟩ := hb u hu
    rfl
  have h2 := run_loadCells_list (P := Tryz.prog) W ⟨b, 0, none⟩ l (fun j u hj => by rw [addr_add]; exact h j u hj)
  rw [hl, ← hm] at h2
  rw [run_bytesToString W _ _ _ _ h2, push_list]
  congr 2
  apply ByteArray.ext
  show ByteArray.empty.data ++ _ = _
  simp [strOf, byteV, Function.comp_def]
set_option maxHeartbeats 1000000 in
theorem text_any (b n c : Nat) (l : List Value) (w : World) (hl : l.length = n) (h : ∀ j u, l[j]? = some u → w.cell? ⟨b, 0 + j, none⟩ = some u) (hb : ∀ u ∈ l, ∃ k : Int, u = .int .u8 k) :
    Calls Tryz.prog 23 #[.slice (some ⟨b, 0, none⟩) n c, .nilIface] w fun e w' => e = .returned (.tuple #[.string (strOf l), .bool true]) ∧ w = w' := by
  have hc := conv_text w b n c l hl h hb
  have H1 := Lib.hid hl
  have H2 := Lib.hid h
  have H3 := Lib.hid hb
  clear hl h hb
  go_enter Tryz.func23, Tryz.ntmps23
  go_wp2
  go_ret2
  exact ⟨rfl, rfl⟩
end Go.Proofs.YtgnmgkpfgmpdfaaGreatDoor
end

/- spec.recNum, recVec, recLong: numbers in so many bytes, texts behind their lengths. -/
import Derived.Test.YtgnmgkpfgmpdfaaGreatDoorSFitA
import Derived.Test.YtgnmgkpfgmpdfaaGreatDoorSMar
import Derived.Test.YtgnmgkpfgmpdfaaGreatDoorSText
import Derived.Test.YtgnmgkpfgmpdfaaGreatDoorSFitB
set_option linter.unusedVariables false
set_option linter.unusedSimpArgs false
section
namespace Go.Proofs.YtgnmgkpfgmpdfaaGreatDoor
open Go.RowKit

/-- The byte of a number at a place, from the last one on. -/
def digV (x : Int) (i : Nat) : Value := .int .u8 (x / 2 ^ (8 * i) % 256)
/-- The first k of b bytes of a number. -/
def numC (x : Int) (b k : Nat) : List Value := (List.range k).map fun j => digV x (b - 1 - j)
theorem numC_succ (x : Int) (b k : Nat) : numC x b (k + 1) = numC x b k ++ [digV x (b - 1 - k)] := by simp [numC, List.range_succ]
theorem numC_length (x : Int) (b k : Nat) : (numC x b k).length = k := by simp [numC]
/-- A number in b bytes. -/
def numS (x : Int) (b : Nat) : ByteArray := strOf (numC x b b)
theorem numS_size (x : Int) (b : Nat) : (numS x b).size = b := by
  show (List.map byteV (numC x b b)).toArray.size = b
  simp [numC_length]
def NumRel (x : Int) (b : Nat) (w : World) (v i : Value) (wr : World) : Prop :=
  ∃ k : Nat, k ≤ b ∧ i = .int .i64 ((b : Int) - 1 - k) ∧ wr.ownsRow w.heap.size 5 1 v k (numC x b k) ∧ Below w.heap.size w wr
set_option maxHeartbeats 2000000 in
set_option maxRecDepth 100000 in
theorem recNum_any (x : Int) (b : Nat) (w : World) (hb1 : 1 ≤ b) (hb : b ≤ 8) :
    Calls Tryz.prog 65 #[.int .u64 x, .int .i64 (b : Int)] w fun e w' => e = .returned (.string (numS x b)) ∧ Below w.heap.size w w' := by
  have g0 : IntKind.i64.wrap ((b : Int) - 1) = (b : Int) - 1 := by rw [IntKind.wrap_i64]; omega
  go_enter Tryz.func65, Tryz.ntmps65
  go_wp2_with fail
  go_loopw [5, 6] (fun v i wr => NumRel x b w v i wr) (fun _ i _ => (intOf i + 1).toNat)
  case atStart => exact ⟨0, by omega, by go_num, World.ownsRow_nil _ _ _ _, Below.refl _ _⟩
  case round =>
    obtain ⟨k, hk, rfl, hown, hB⟩ := hrel
    by_cases hlt : k < b
    · obtain ⟨I, hI⟩ : ∃ I : Nat, (b : Int) - 1 - k = I := ⟨b - 1 - k, by omega⟩
      rw [hI]
      have gI : (I : Int) ≤ 7 := by omega
      have HOWN := Lib.hid hown
      have HB := Lib.hid hB
      have HI := Lib.hid hI
      clear hown hB hI g0
      go_wp2_with (refine app_bytes rfl (.tmp 13) (.tmp 19) rfl w.heap.size u5 k (numC x b k) (by kernel_rfl) (HOWN.out.alloc _) wr.heap.size 0 1 1 [.int .u8 (x / 2 ^ (8 * I) % 256)] (by kernel_rfl) rfl (src_new wr #[.int .u8 (x / 2 ^ (8 * I) % 256)]) (fun u hu => by simp at hu; subst hu; rfl) (by omega) (by rw [World.size_alloc]; have := HB.out.size; omega) ?_; intro v' w3 hv hgr _)
      have hb3 : Below w.heap.size w w3 := (HB.out.alloc HB.out.size _).grown hgr (by rw [World.size_alloc]; have := HB.out.size; omega) (fun k' hk' => (HOWN.out.lt k' hk').1)
      have hrel : NumRel x b w v' (.int .i64 ((b : Int) - 1 - (k + 1 : Nat))) w3 := ⟨k + 1, by omega, rfl, by
        rw [numC_succ]
        have e : b - 1 - k = I := by have := HI.out; omega
        rw [e]
        exact hv, hb3⟩
      have hi1 : (b : Int) - 1 - (k + 1 : Nat) = (I : Int) - 1 := by have := HI.out; omega
      rw [hi1] at hrel
      have HR := Lib.hid hrel
      clear hrel hb3 hv hgr hi1
      go_wp2_with fail
      go_roundw
      case rel => exact HR.out
      case measure => simp [intOf]
    · obtain rfl : k = b := by omega
      obtain ⟨q, cap, cur, rfl, hq, hh, hl, hm, hcs, ht⟩ := own_row hown (by omega)
      have hc := conv_text wr q k cap (numC x k k) (numC_length x k k) (fun j u hj => by
        rw [Nat.zero_add, bcell hh]
        rw [← ht] at hj
        by_cases h : j < k
        · rw [List.getElem?_take_of_lt h] at hj
          simpa using hj
        · rw [List.getElem?_eq_none (by rw [List.length_take]; omega)] at hj
          cases hj) (fun u hu => by
        obtain ⟨j, _, rfl⟩ := List.mem_map.1 hu
        exact ⟨_, rfl⟩)
      have HB := Lib.hid hB
      have gk : (k : Int) - 1 - k = -1 := by omega
      rw [gk]
      clear hB hown hh hcs ht hq hl hm g0 gk
      go_wp2_with fail
      go_ret
      exact ⟨rfl, HB.out⟩
/-- A text behind its length. -/
def vecS (s : ByteArray) (b : Nat) : ByteArray := numS (s.size : Int) b ++ s
theorem vecS_size (s : ByteArray) (b : Nat) : (vecS s b).size = b + s.size := by rw [vecS, ByteArray.size_append, numS_size]
set_option maxHeartbeats 1000000 in
theorem recVec_any (s : ByteArray) (b : Nat) (w : World) (hs : s.size ≤ 9223372036854000000) (hb1 : 1 ≤ b) (hb : b ≤ 8) :
    Calls Tryz.prog 50 #[.string s, .int .i64 (b : Int)] w fun e w' => e = .returned (.string (vecS s b)) ∧ Below w.heap.size w w' := by
  have gs : (s.size : Int) ≤ 9223372036854000000 := by omega
  have gb : (b : Int) ≤ 8 := by omega
  go_enter Tryz.func50, Tryz.ntmps50
  go_wp2_with fail
  refine (recNum_any (s.size : Int) b w hb1 hb).mono ?_
  rintro e w2 ⟨rfl, hb2⟩
  have HB2 := Lib.hid hb2
  have hz := numS_size (s.size : Int) b
  generalize hN : numS (s.size : Int) b = N at hz ⊢
  have HN := Lib.hid hN
  have hz2 : N.size ≤ 8 := by omega
  clear hb2 hN hz
  dsimp only
  go_wp2_with fail
  go_ret
  exact ⟨by rw [← HN.out]; rfl, HB2.out⟩
/-- Whether a text is too long for a length in so many bytes. -/
def longB (s : ByteArray) (b : Nat) : Bool := decide (256 ^ b ≤ s.size)
theorem longB_no {s : ByteArray} {b : Nat} (h : longB s b = false) : s.size < 256 ^ b := by simpa [longB] using h
set_option maxHeartbeats 1000000 in
theorem recLong_1 (s : ByteArray) (w : World) (hs : s.size ≤ 9223372036854775807) : Calls Tryz.prog 51 #[.string s, .int .i64 1] w fun e w' => e = .returned (.bool (longB s 1)) ∧ w' = w := by
  have gs : (s.size : Int) ≤ 9223372036854775807 := by omega
  have gw : IntKind.u64.wrap (s.size : Int) = (s.size : Int) := by rw [IntKind.wrap_u64]; omega
  have hL : longB s 1 = decide ((s.size : Int) ≥ 256) := by unfold longB; simp only [ge_iff_le, decide_eq_decide]; omega
  have HL := Lib.hid hL
  clear hL
  go_enter Tryz.func51, Tryz.ntmps51
  go_wp2_with fail
  go_ret
  rw [HL.out]
  exact ⟨rfl, rfl⟩
set_option maxHeartbeats 1000000 in
theorem recLong_2 (s : ByteArray) (w : World) (hs : s.size ≤ 9223372036854775807) : Calls Tryz.prog 51 #[.string s, .int .i64 2] w fun e w' => e = .returned (.bool (longB s 2)) ∧ w' = w := by
  have gs : (s.size : Int) ≤ 9223372036854775807 := by omega
  have gw : IntKind.u64.wrap (s.size : Int) = (s.size : Int) := by rw [IntKind.wrap_u64]; omega
  have hL : longB s 2 = decide ((s.size : Int) ≥ 65536) := by unfold longB; simp only [ge_iff_le, decide_eq_decide]; omega
  have HL := Lib.hid hL
  clear hL
  go_enter Tryz.func51, Tryz.ntmps51
  go_wp2_with fail
  go_ret
  rw [HL.out]
  exact ⟨rfl, rfl⟩
end Go.Proofs.YtgnmgkpfgmpdfaaGreatDoor
end

/- Small functions of the laws and the reference: pairs, numbers, lists as texts. -/
section
namespace Go.Proofs.YtgnmgkpfgmpdfaaGreatDoor
open Go.RowKit

/-- Some text of which B holds. -/
def Said (B : ByteArray → Prop) (w : World) (e : Ending) (w' : World) : Prop := ∃ s : ByteArray, e = .returned (.string s) ∧ B s ∧ Below w.heap.size w w'
/-- Some text of which B holds, and some truth. -/
def Said2 (B : ByteArray → Bool → Prop) (w : World) (e : Ending) (w' : World) : Prop := ∃ (s : ByteArray) (b : Bool), e = .returned (.tuple #[.string s, .bool b]) ∧ B s b ∧ Below w.heap.size w w'
/-- Some number. -/
def Numbered (k : IntKind) (w : World) (e : Ending) (w' : World) : Prop := ∃ y : Int, e = .returned (.int k y) ∧ w' = w
/-- Some truth, nothing touched. -/
def Yes (w : World) (e : Ending) (w' : World) : Prop := ∃ b : Bool, e = .returned (.bool b) ∧ w' = w
theorem Yes.mk {w : World} (b : Bool) : Yes w (.returned (.bool b)) w := ⟨b, rfl, rfl⟩
theorem Numbered.mk {w : World} {k : IntKind} (y : Int) : Numbered k w (.returned (.int k y)) w := ⟨y, rfl, rfl⟩
theorem Said.mk {B : ByteArray → Prop} {w w' : World} (s : ByteArray) (h : B s) (hb : Below w.heap.size w w') : Said B w (.returned (.string s)) w' := ⟨s, rfl, h, hb⟩
theorem Said2.mk {B : ByteArray → Bool → Prop} {w w' : World} (s : ByteArray) (b : Bool) (h : B s b) (hb : Below w.heap.size w w') : Said2 B w (.returned (.tuple #[.string s, .bool b])) w' := ⟨s, b, rfl, h, hb⟩
theorem recNum_some (x : Int) (b : Nat) (w : World) (hb1 : 1 ≤ b) (hb : b ≤ 8) : Calls Tryz.prog 65 #[.int .u64 x, .int .i64 (b : Int)] w (Said (fun s => s.size = b) w) :=
  (recNum_any x b w hb1 hb).mono fun _ _ ⟨h1, h2⟩ => ⟨_, h1, numS_size x b, h2⟩
theorem recVec_some (s : ByteArray) (b : Nat) (w : World) (hs : s.size ≤ 9223372036854000000) (hb1 : 1 ≤ b) (hb : b ≤ 8) : Calls Tryz.prog 50 #[.string s, .int .i64 (b : Int)] w (Said (fun t => t.size = b + s.size) w) :=
  (recVec_any s b w hs hb1 hb).mono fun _ _ ⟨h1, h2⟩ => ⟨_, h1, vecS_size s b, h2⟩
set_option maxHeartbeats 2000000 in
theorem pss_any (x : Int) (w : World) : Calls Tryz.prog 20 #[.int .u16 x] w (Yes w) := by
  go_enter Tryz.func20, Tryz.ntmps20
  by_cases a1 : x ≥ 2052 <;> by_cases a2 : x ≤ 2054 <;> by_cases a3 : x ≥ 2057 <;> by_cases a4 : x ≤ 2059
  all_goals
    go_wp2_with fail
    go_ret
    exact Yes.mk _
set_option maxHeartbeats 2000000 in
theorem pairhash_any (x : Int) (w : World) : Calls Tryz.prog 33 #[.int .u16 x] w (Numbered .u16 w) := by
  go_enter Tryz.func33, Tryz.ntmps33
  by_cases a3 : x ≥ 2057
  all_goals
    go_wp2_with fail
    go_ret
    exact Numbered.mk _
set_option maxHeartbeats 2000000 in
theorem pairwrite_any (x y : Int) (w : World) : Calls Tryz.prog 56 #[.agg #[.int .u16 x, .int .u16 y]] w (Said (fun s => s.size = 2) w) := by
  go_enter Tryz.func56, Tryz.ntmps56
  go_upto_region 1 with fail
  change Code.wp _ _ _ _ (w.alloc (Obj.cells #[.int .u16 x, .int .u16 y] 51))
  have hB1 : Below w.heap.size w (w.alloc (Obj.cells #[.int .u16 x, .int .u16 y] 51)) := (Below.refl _ _).alloc (Nat.le_refl _) _
  have hM1 := heap_alloc_new w (Obj.cells #[.int .u16 x, .int .u16 y] 51)
  generalize w.alloc (Obj.cells #[.int .u16 x, .int .u16 y] 51) = w1 at hB1 hM1 ⊢
  have HB1 := Lib.hid hB1
  have k0 : w1.cell? ⟨w.heap.size, 0, none⟩ = some (.int .u16 x) := (bcell hM1 0).trans rfl
  have k1 : w1.cell? ⟨w.heap.size, 1, none⟩ = some (.int .u16 y) := (bcell hM1 1).trans rfl
  clear hB1 hM1
  go_wp2_with fail
  refine (pss_any y w1).mono ?_
  rintro e w2 ⟨b, rfl, rfl⟩
  dsimp only
  cases b
  · have hc := conv_text (w2.alloc (Obj.cells #[.int .u8 (x % 256), .int .u8 (y % 256)] 5)) w2.heap.size 2 2 [.int .u8 (x % 256), .int .u8 (y % 256)] rfl (fun j u hj => by
      rw [Nat.zero_add, bcell (heap_alloc_new w2 _)]
      simpa using hj) (fun u hu => by
      simp only [List.mem_cons, List.not_mem_nil, or_false] at hu
      rcases hu with rfl | rfl <;> exact ⟨_, rfl⟩)
    go_wp2_with fail
    go_ret
    exact Said.mk _ (by simp [strOf, ByteArray.size]) (HB1.out.alloc HB1.out.size _)
  · go_wp2_with fail
    refine (recNum_some _ 2 w2 (by omega) (by omega)).mono ?_
    rintro e w3 ⟨N, rfl, hz, hb3⟩
    have HB3 := Lib.hid (HB1.out.trans (hb3.mono HB1.out.size))
    have HZ := Lib.hid hz
    clear hb3 hz
    dsimp only
    go_wp2_with fail
    go_ret
    exact Said.mk N HZ.out HB3.out
set_option maxHeartbeats 2000000 in
set_option maxRecDepth 100000 in
theorem extnums_any (b : Nat) (hb1 : 1 ≤ b) (hb2 : b ≤ 2) (p : Option Addr) (n cap : Nat) (u : Nat → Int) (w : World) (ho : NilOk p n cap) (hs : Sl1 w p n (fun j => .int .u16 (u j))) :
    Calls Tryz.prog 88 #[.slice p n cap, .int .i64 (b : Int)] w (Said (fun s => s.size = b * n) w) := by
  have HM := Lib.hid hs
  have gn : (n : Int) ≤ 140737488351232 := by have h : n ≤ 140737488351232 := ho.2.2; omega
  clear hs ho
  go_enter Tryz.func88, Tryz.ntmps88
  go_wp2_with fail
  go_loopw [5, 6] (fun v i wr => ∃ (k : Nat) (s : ByteArray), k ≤ n ∧ i = .int .i64 (k : Int) ∧ v = .string s ∧ s.size = b * k ∧ Below w.heap.size w wr) (fun _ i _ => n - (intOf i).toNat)
  case atStart => exact ⟨0, _, by omega, rfl, rfl, rfl, Below.refl _ _⟩
  case round =>
    obtain ⟨k, s, hk, rfl, rfl, hz, hB⟩ := hrel
    have hz1 : s.size ≤ 2 * k := by rw [hz]; exact Nat.mul_le_mul_right _ hb2
    have HZ := Lib.hid hz
    clear hz
    by_cases hlt : k < n
    · obtain ⟨c, o, rfl, hm1⟩ := HM.out k hlt
      have c1 := bcellv hB hm1
      have g1 : (k : Int) < n := by omega
      have HB := Lib.hid hB
      clear hB hm1
      go_wp2_with fail
      refine (recNum_some _ b wr hb1 (by omega)).mono ?_
      rintro e w3 ⟨N, rfl, hz2, hb3⟩
      have HB3 := Lib.hid (HB.out.trans (hb3.mono HB.out.size))
      have hz3 : N.size ≤ 2 := by omega
      have hz4 : (s ++ N).size = b * (k + 1) := by rw [ByteArray.size_append, HZ.out, hz2, Nat.mul_succ]
      have HZ4 := Lib.hid hz4
      clear hb3 hz2 hz4
      dsimp only
      go_wp2_with fail
      go_roundw
      case rel => exact ⟨k + 1, s ++ N, by omega, by go_num, rfl, HZ4.out, HB3.out⟩
      case measure => simp [intOf]; omega
    · obtain rfl : k = n := by omega
      have HB := Lib.hid hB
      clear hB
      go_wp2_with fail
      go_ret
      exact Said.mk s (by exact HZ.out) HB.out
end Go.Proofs.YtgnmgkpfgmpdfaaGreatDoor
end

/- spec.mesPairs, mesList. -/
section
namespace Go.Proofs.YtgnmgkpfgmpdfaaGreatDoor
open Go.RowKit

/-- Some truth; with false B holds; nothing touched. -/
def Long (B : Prop) (w : World) (e : Ending) (w' : World) : Prop := ∃ b : Bool, e = .returned (.bool b) ∧ (b = false → B) ∧ w' = w
theorem recLong_some (b : Nat) (hb : b = 1 ∨ b = 2) (s : ByteArray) (w : World) (hs : s.size ≤ 9223372036854775807) : Calls Tryz.prog 51 #[.string s, .int .i64 (b : Int)] w (Long (s.size < 65536) w) := by
  rcases hb with rfl | rfl
  · exact (recLong_1 s w hs).mono fun _ _ ⟨h1, h2⟩ => ⟨_, h1, fun h => by have := longB_no h; omega, h2⟩
  · exact (recLong_2 s w hs).mono fun _ _ ⟨h1, h2⟩ => ⟨_, h1, fun h => by have := longB_no h; omega, h2⟩
set_option maxHeartbeats 2000000 in
set_option maxRecDepth 100000 in
theorem mespairs_any (p : Option Addr) (n cap : Nat) (x z : Nat → Int) (w : World) (ho : n ≤ MX) (hs : Sl2 w p n (fun j => .int .u16 (x j)) (fun j => .int .u16 (z j))) :
    Calls Tryz.prog 55 #[.slice p n cap] w (Said2 (fun s _ => s.size ≤ 2 + 2 * n) w) := by
  have HM := Lib.hid hs
  have gn : (n : Int) ≤ 2147483647 := by have h : n ≤ 2147483647 := ho; omega
  clear hs ho
  go_enter Tryz.func55, Tryz.ntmps55
  go_wp2_with fail
  go_loopw [4, 5] (fun v i wr => ∃ (k : Nat) (s : ByteArray), k ≤ n ∧ i = .int .i64 (k : Int) ∧ v = .string s ∧ s.size = 2 * k ∧ Below w.heap.size w wr) (fun _ i _ => n - (intOf i).toNat)
  case atStart => exact ⟨0, _, by omega, rfl, rfl, rfl, Below.refl _ _⟩
  case round =>
    obtain ⟨k, s, hk, rfl, rfl, hz, hB⟩ := hrel
    have hz1 : s.size ≤ 4294967296 := by omega
    have HZ := Lib.hid hz
    clear hz
    by_cases hlt : k < n
    · obtain ⟨c, o, rfl, hm1, hm2⟩ := HM.out k hlt
      have c1 := bcellv hB hm1
      have c2 := bcellv hB hm2
      have g1 : (k : Int) < n := by omega
      have HB := Lib.hid hB
      clear hB hm1 hm2
      go_wp2_with fail
      refine (pairwrite_any (x k) (z k) wr).mono ?_
      rintro e w3 ⟨N, rfl, hz2, hb3⟩
      have HB3 := Lib.hid (HB.out.trans (hb3.mono HB.out.size))
      have hz3 : N.size ≤ 2 := by omega
      have HZ4 := Lib.hid (show (s ++ N).size = 2 * (k + 1) by rw [ByteArray.size_append, HZ.out, hz2]; omega)
      clear hb3 hz2
      dsimp only
      go_wp2_with fail
      go_roundw
      case rel => exact ⟨k + 1, s ++ N, by omega, by go_num, rfl, HZ4.out, HB3.out⟩
      case measure => simp [intOf]; omega
    · obtain rfl : k = n := by omega
      have HB := Lib.hid hB
      clear hB
      go_wp2_with fail
      refine (recVec_some s 2 wr (by omega) (by omega) (by omega)).mono ?_
      rintro e w3 ⟨N, rfl, hz2, hb3⟩
      have HB3 := Lib.hid (HB.out.trans (hb3.mono HB.out.size))
      have HZ2 := Lib.hid hz2
      clear hb3 hz2
      dsimp only
      go_wp2_with fail
      refine (recLong_some 2 (.inr rfl) s w3 (by omega)).mono ?_
      rintro e w4 ⟨r, rfl, _, rfl⟩
      dsimp only
      go_wp2_with fail
      go_ret2
      exact Said2.mk N _ (by show N.size ≤ _; rw [HZ2.out, HZ.out]; omega) HB3.out
set_option maxHeartbeats 2000000 in
set_option maxRecDepth 100000 in
theorem meslist_any (b : Nat) (hb : b = 1 ∨ b = 2) (p : Option Addr) (n cap : Nat) (t : Nat → ByteArray) (w : World) (ho : n ≤ MX) (hs : Sl1 w p n (fun j => .string (t j))) (hz : ∀ j, j < n → (t j).size ≤ RB) :
    Calls Tryz.prog 53 #[.slice p n cap, .int .i64 (b : Int), .int .i64 2] w (Said2 (fun s _ => s.size ≤ 2 + 65538 * n) w) := by
  have HM := Lib.hid hs
  have HT := Lib.hid hz
  have gn : (n : Int) ≤ 2147483647 := by have h : n ≤ 2147483647 := ho; omega
  clear hs ho hz
  go_enter Tryz.func53, Tryz.ntmps53
  go_wp2_with fail
  go_loopw [8, 9] (fun v i wr => ∃ (k : Nat) (s : ByteArray), k ≤ n ∧ i = .int .i64 (k : Int) ∧ v = .string s ∧ s.size ≤ 65538 * k ∧ Below w.heap.size w wr) (fun _ i _ => n - (intOf i).toNat)
  case atStart => exact ⟨0, _, by omega, rfl, rfl, Nat.le_refl _, Below.refl _ _⟩
  case round =>
    obtain ⟨k, s, hk, rfl, rfl, hz, hB⟩ := hrel
    have hz1 : s.size ≤ 140741783322624 := by omega
    have HZ := Lib.hid hz
    clear hz
    by_cases hlt : k < n
    · obtain ⟨c, o, rfl, hm1⟩ := HM.out k hlt
      have c1 := bcellv hB hm1
      have g1 : (k : Int) < n := by omega
      have hzk : (t k).size ≤ 140737488351232 := HT.out k hlt
      have HB := Lib.hid hB
      clear hB hm1
      go_wp2_with fail
      refine (recLong_some b hb (t k) wr (by omega)).mono ?_
      rintro e w2 ⟨r, rfl, hr, rfl⟩
      dsimp only
      have HR := Lib.hid hr
      clear hr
      cases r
      · have hzk' : (t k).size < 65536 := HR.out (by trivial)
        have hb2 : b ≤ 2 := by omega
        have hb1 : 1 ≤ b := by omega
        go_wp2_with fail
        refine (recVec_some (t k) b w2 (by omega) (by omega) (by omega)).mono ?_
        rintro e w3 ⟨N, rfl, hz2, hb3⟩
        have HB3 := Lib.hid (HB.out.trans (hb3.mono HB.out.size))
        have hz3 : N.size ≤ 65538 := by omega
        have HZ4 := Lib.hid (show (s ++ N).size ≤ 65538 * (k + 1) by rw [ByteArray.size_append]; have := HZ.out; omega)
        clear hb3 hz2
        dsimp only
        go_wp2_with fail
        go_roundw
        case rel => exact ⟨k + 1, s ++ N, by omega, by go_num, rfl, HZ4.out, HB3.out⟩
        case measure => simp [intOf]; omega
      · go_wp2_with fail
        go_ret2
        exact Said2.mk _ _ (Nat.zero_le _) HB.out
    · obtain rfl : k = n := by omega
      have HB := Lib.hid hB
      clear hB
      go_wp2_with fail
      refine (recVec_some s 2 wr (by omega) (by omega) (by omega)).mono ?_
      rintro e w3 ⟨N, rfl, hz2, hb3⟩
      have HB3 := Lib.hid (HB.out.trans (hb3.mono HB.out.size))
      have HZ2 := Lib.hid hz2
      clear hb3 hz2
      dsimp only
      go_wp2_with fail
      refine (recLong_some 2 (.inr rfl) s w3 (by omega)).mono ?_
      rintro e w4 ⟨r, rfl, _, rfl⟩
      dsimp only
      go_wp2_with fail
      go_ret2
      exact Said2.mk N _ (by show N.size ≤ _; rw [HZ2.out]; have := HZ.out; omega) HB3.out
end Go.Proofs.YtgnmgkpfgmpdfaaGreatDoor
end

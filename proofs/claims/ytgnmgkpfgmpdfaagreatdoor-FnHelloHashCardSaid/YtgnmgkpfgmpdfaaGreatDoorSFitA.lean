/- laws.zzFits3, 8 to 13: an answer, and with true no more elements than the bound. -/
import Derived.Test.YtgnmgkpfgmpdfaaGreatDoorSExt
import Derived.Deep.Cut
import Derived.Deep.MidRow
set_option linter.unusedVariables false
set_option linter.unusedSimpArgs false
namespace Go.Proofs.YtgnmgkpfgmpdfaaGreatDoor
open Go.RowKit

/-- Some truth, and nothing that stood is touched; with true B holds. -/
def Told (B : Prop) (w : World) (e : Ending) (w' : World) : Prop := ∃ b : Bool, e = .returned (.bool b) ∧ (b = true → B) ∧ Below w.heap.size w w'
def Tell (f : Nat) (args : Array Value) (w : World) (B : Prop) : Prop := Calls Tryz.prog f args w (Told B w)
theorem Told.no {B : Prop} {w w' : World} (h : Below w.heap.size w w') : Told B w (.returned (.bool false)) w' := ⟨false, rfl, fun h => Bool.noConfusion h, h⟩
theorem Told.yes {B : Prop} {w w' : World} (hB : B) (h : Below w.heap.size w w') : Told B w (.returned (.bool true)) w' := ⟨true, rfl, fun _ => hB, h⟩
theorem Told.some {B : Prop} {w w' : World} (b : Bool) (hB : B) (h : Below w.heap.size w w') : Told B w (.returned (.bool b)) w' := ⟨b, rfl, fun _ => hB, h⟩

set_option maxHeartbeats 1000000 in
theorem fits85 (a : Int) (z : ByteArray) (w : World) : Tell 85 #[.agg #[.int .u16 a, .string z]] w True := by
  unfold Tell
  go_enter Tryz.func85, Tryz.ntmps85
  have hB1 : Below w.heap.size w (w.alloc (Obj.cells #[.int .u16 a, .string z] 115)) := (Below.refl _ _).alloc (Nat.le_refl _) _
  by_cases h0 : (z.size : Int) > 2147483647
  · go_wp2_with fail
    go_ret
    exact Told.some _ trivial hB1
  · go_wp2_with fail
    go_ret
    exact Told.some _ trivial hB1

set_option maxHeartbeats 1000000 in
theorem fits86 (z : ByteArray) (a : Int) (w : World) : Tell 86 #[.agg #[.string z, .int .u32 a]] w True := by
  unfold Tell
  go_enter Tryz.func86, Tryz.ntmps86
  have hB1 : Below w.heap.size w (w.alloc (Obj.cells #[.string z, .int .u32 a] 180)) := (Below.refl _ _).alloc (Nat.le_refl _) _
  by_cases h0 : (z.size : Int) > 2147483647
  · go_wp2_with fail
    go_ret
    exact Told.some _ trivial hB1
  · go_wp2_with fail
    go_ret
    exact Told.some _ trivial hB1

set_option maxHeartbeats 1000000 in
theorem fits87 (a z : ByteArray) (w : World) : Tell 87 #[.agg #[.string a, .string z]] w True := by
  unfold Tell
  go_enter Tryz.func87, Tryz.ntmps87
  have hB1 : Below w.heap.size w (w.alloc (Obj.cells #[.string a, .string z] 183)) := (Below.refl _ _).alloc (Nat.le_refl _) _
  by_cases h0 : (a.size : Int) > 2147483647
  · go_wp2_with fail
    go_ret
    exact Told.some _ trivial hB1
  · by_cases h1 : (z.size : Int) > 2147483647
    · go_wp2_with fail
      go_ret
      exact Told.some _ trivial hB1
    · go_wp2_with fail
      go_ret
      exact Told.some _ trivial hB1

set_option maxHeartbeats 2000000 in
set_option maxRecDepth 100000 in
theorem fits61 (p : Option Addr) (n cap : Nat) (a : Nat → Int) (z : Nat → ByteArray) (w : World) (ho : NilOk p n cap) (hs : Sl2 w p n (fun j => .int .u16 (a j)) (fun j => .string (z j))) : Tell 61 #[.slice p n cap] w (n ≤ MX) := by
  have HM := Lib.hid hs
  have gn : (n : Int) ≤ 140737488351232 := by have h : n ≤ 140737488351232 := ho.2.2; omega
  unfold Tell
  clear hs ho
  go_enter Tryz.func61, Tryz.ntmps61
  by_cases hc : (n : Int) > 2147483647
  · go_wp2_with fail
    go_ret
    exact Told.no (Below.refl _ _)
  · go_wp2_with fail
    go_loopw [10] (fun i wr => ∃ k : Nat, k ≤ n ∧ i = .int .i64 (k : Int) ∧ Below w.heap.size w wr) (fun i _ => n - (intOf i).toNat)
    case atStart => exact ⟨0, by omega, rfl, Below.refl _ _⟩
    case round =>
      obtain ⟨k, hk, rfl, hB⟩ := hrel
      by_cases hlt : k < n
      · obtain ⟨b, o, rfl, hm1, hm2⟩ := HM.out k hlt
        have c1 := bcellv hB hm1
        have c2 := bcellv hB hm2
        clear hm1 hm2
        have g1 : (k : Int) < n := by omega
        have hld : (Instr.loadAt 115 (.pointer (some ⟨b, o + k * 2, none⟩))).run Tryz.prog wr = .ok (.agg #[.int .u16 (a k), .string (z k)]) wr :=
          run_loadAt_mid wr b (o + k * 2) 115 [.int .u16 (a k), .string (z k)] _ (fun j u hj => by
            match j, hj with
            | 0, hj => simp at hj; subst hj; exact c1
            | 1, hj => simp at hj; subst hj; exact c2
            | j + 2, hj => simp at hj) Tryz.underlying115 rfl (by kernel_rfl)
        have HB := Lib.hid hB
        clear hB
        go_wp2_with (refine wpList_store_row (o := ⟨none, .store 115 (.tmp 4) (.tmp 13), _, _, _, _⟩) rfl 115 (.tmp 4) (.tmp 13) rfl wr.heap.size #[.int .u16 (a k), .string (z k)] (by kernel_rfl) (by kernel_rfl) 115 #[.int .u16 0, .string ⟨#[]⟩] (heap_alloc_new wr _) (by kernel_rfl) rfl (by kernel_rfl) ?_; change wpList _ _ _ _ _ ((wr.alloc (Obj.cells #[.int .u16 0, .string ⟨#[]⟩] 115)).setRow wr.heap.size _); rw [setRow_alloc])
        refine (fits85 (a k) (z k) (wr.alloc (Obj.cells #[.int .u16 (a k), .string (z k)] 115))).mono ?_
        rintro e w2 ⟨b, rfl, _, hb2⟩
        have hB2 : Below w.heap.size w w2 := (HB.out.alloc HB.out.size _).trans (hb2.mono (by rw [World.size_alloc]; have := HB.out.size; omega))
        have HB2 := Lib.hid hB2
        clear hb2 hB2
        dsimp only
        cases b
        · go_wp2_with fail
          go_ret
          exact Told.no HB2.out
        · go_wp2_with fail
          go_roundw
          case rel => exact ⟨k + 1, by omega, by go_num, HB2.out⟩
          case measure => simp [intOf]; omega
      · obtain rfl : k = n := by omega
        have HB := Lib.hid hB
        clear hB
        go_wp2_with fail
        go_ret
        exact Told.yes (by unfold MX; omega) HB.out

set_option maxHeartbeats 2000000 in
set_option maxRecDepth 100000 in
theorem fits62 (p : Option Addr) (n cap : Nat) (a : Nat → ByteArray) (z : Nat → Int) (w : World) (ho : NilOk p n cap) (hs : Sl2 w p n (fun j => .string (a j)) (fun j => .int .u32 (z j))) : Tell 62 #[.slice p n cap] w (n ≤ MX) := by
  have HM := Lib.hid hs
  have gn : (n : Int) ≤ 140737488351232 := by have h : n ≤ 140737488351232 := ho.2.2; omega
  unfold Tell
  clear hs ho
  go_enter Tryz.func62, Tryz.ntmps62
  by_cases hc : (n : Int) > 2147483647
  · go_wp2_with fail
    go_ret
    exact Told.no (Below.refl _ _)
  · go_wp2_with fail
    go_loopw [10] (fun i wr => ∃ k : Nat, k ≤ n ∧ i = .int .i64 (k : Int) ∧ Below w.heap.size w wr) (fun i _ => n - (intOf i).toNat)
    case atStart => exact ⟨0, by omega, rfl, Below.refl _ _⟩
    case round =>
      obtain ⟨k, hk, rfl, hB⟩ := hrel
      by_cases hlt : k < n
      · obtain ⟨b, o, rfl, hm1, hm2⟩ := HM.out k hlt
        have c1 := bcellv hB hm1
        have c2 := bcellv hB hm2
        clear hm1 hm2
        have g1 : (k : Int) < n := by omega
        have hld : (Instr.loadAt 180 (.pointer (some ⟨b, o + k * 2, none⟩))).run Tryz.prog wr = .ok (.agg #[.string (a k), .int .u32 (z k)]) wr :=
          run_loadAt_mid wr b (o + k * 2) 180 [.string (a k), .int .u32 (z k)] _ (fun j u hj => by
            match j, hj with
            | 0, hj => simp at hj; subst hj; exact c1
            | 1, hj => simp at hj; subst hj; exact c2
            | j + 2, hj => simp at hj) Tryz.underlying180 rfl (by kernel_rfl)
        have HB := Lib.hid hB
        clear hB
        go_wp2_with (refine wpList_store_row (o := ⟨none, .store 180 (.tmp 4) (.tmp 13), _, _, _, _⟩) rfl 180 (.tmp 4) (.tmp 13) rfl wr.heap.size #[.string (a k), .int .u32 (z k)] (by kernel_rfl) (by kernel_rfl) 180 #[.string ⟨#[]⟩, .int .u32 0] (heap_alloc_new wr _) (by kernel_rfl) rfl (by kernel_rfl) ?_; change wpList _ _ _ _ _ ((wr.alloc (Obj.cells #[.string ⟨#[]⟩, .int .u32 0] 180)).setRow wr.heap.size _); rw [setRow_alloc])
        refine (fits86 (a k) (z k) (wr.alloc (Obj.cells #[.string (a k), .int .u32 (z k)] 180))).mono ?_
        rintro e w2 ⟨b, rfl, _, hb2⟩
        have hB2 : Below w.heap.size w w2 := (HB.out.alloc HB.out.size _).trans (hb2.mono (by rw [World.size_alloc]; have := HB.out.size; omega))
        have HB2 := Lib.hid hB2
        clear hb2 hB2
        dsimp only
        cases b
        · go_wp2_with fail
          go_ret
          exact Told.no HB2.out
        · go_wp2_with fail
          go_roundw
          case rel => exact ⟨k + 1, by omega, by go_num, HB2.out⟩
          case measure => simp [intOf]; omega
      · obtain rfl : k = n := by omega
        have HB := Lib.hid hB
        clear hB
        go_wp2_with fail
        go_ret
        exact Told.yes (by unfold MX; omega) HB.out

set_option maxHeartbeats 2000000 in
set_option maxRecDepth 100000 in
theorem fits63 (p : Option Addr) (n cap : Nat) (a : Nat → ByteArray) (z : Nat → ByteArray) (w : World) (ho : NilOk p n cap) (hs : Sl2 w p n (fun j => .string (a j)) (fun j => .string (z j))) : Tell 63 #[.slice p n cap] w (n ≤ MX) := by
  have HM := Lib.hid hs
  have gn : (n : Int) ≤ 140737488351232 := by have h : n ≤ 140737488351232 := ho.2.2; omega
  unfold Tell
  clear hs ho
  go_enter Tryz.func63, Tryz.ntmps63
  by_cases hc : (n : Int) > 2147483647
  · go_wp2_with fail
    go_ret
    exact Told.no (Below.refl _ _)
  · go_wp2_with fail
    go_loopw [10] (fun i wr => ∃ k : Nat, k ≤ n ∧ i = .int .i64 (k : Int) ∧ Below w.heap.size w wr) (fun i _ => n - (intOf i).toNat)
    case atStart => exact ⟨0, by omega, rfl, Below.refl _ _⟩
    case round =>
      obtain ⟨k, hk, rfl, hB⟩ := hrel
      by_cases hlt : k < n
      · obtain ⟨b, o, rfl, hm1, hm2⟩ := HM.out k hlt
        have c1 := bcellv hB hm1
        have c2 := bcellv hB hm2
        clear hm1 hm2
        have g1 : (k : Int) < n := by omega
        have hld : (Instr.loadAt 183 (.pointer (some ⟨b, o + k * 2, none⟩))).run Tryz.prog wr = .ok (.agg #[.string (a k), .string (z k)]) wr :=
          run_loadAt_mid wr b (o + k * 2) 183 [.string (a k), .string (z k)] _ (fun j u hj => by
            match j, hj with
            | 0, hj => simp at hj; subst hj; exact c1
            | 1, hj => simp at hj; subst hj; exact c2
            | j + 2, hj => simp at hj) Tryz.underlying183 rfl (by kernel_rfl)
        have HB := Lib.hid hB
        clear hB
        go_wp2_with (refine wpList_store_row (o := ⟨none, .store 183 (.tmp 4) (.tmp 13), _, _, _, _⟩) rfl 183 (.tmp 4) (.tmp 13) rfl wr.heap.size #[.string (a k), .string (z k)] (by kernel_rfl) (by kernel_rfl) 183 #[.string ⟨#[]⟩, .string ⟨#[]⟩] (heap_alloc_new wr _) (by kernel_rfl) rfl (by kernel_rfl) ?_; change wpList _ _ _ _ _ ((wr.alloc (Obj.cells #[.string ⟨#[]⟩, .string ⟨#[]⟩] 183)).setRow wr.heap.size _); rw [setRow_alloc])
        refine (fits87 (a k) (z k) (wr.alloc (Obj.cells #[.string (a k), .string (z k)] 183))).mono ?_
        rintro e w2 ⟨b, rfl, _, hb2⟩
        have hB2 : Below w.heap.size w w2 := (HB.out.alloc HB.out.size _).trans (hb2.mono (by rw [World.size_alloc]; have := HB.out.size; omega))
        have HB2 := Lib.hid hB2
        clear hb2 hB2
        dsimp only
        cases b
        · go_wp2_with fail
          go_ret
          exact Told.no HB2.out
        · go_wp2_with fail
          go_roundw
          case rel => exact ⟨k + 1, by omega, by go_num, HB2.out⟩
          case measure => simp [intOf]; omega
      · obtain rfl : k = n := by omega
        have HB := Lib.hid hB
        clear hB
        go_wp2_with fail
        go_ret
        exact Told.yes (by unfold MX; omega) HB.out

set_option maxHeartbeats 2000000 in
set_option maxRecDepth 100000 in
theorem fits11 (p : Option Addr) (n cap : Nat) (t : Nat → ByteArray) (w : World) (ho : NilOk p n cap) (hs : Sl1 w p n (fun j => .string (t j))) : Tell 11 #[.slice p n cap] w (n ≤ MX) := by
  have HM := Lib.hid hs
  have gn : (n : Int) ≤ 140737488351232 := by have h : n ≤ 140737488351232 := ho.2.2; omega
  unfold Tell
  clear hs ho
  go_enter Tryz.func11, Tryz.ntmps11
  by_cases hc : (n : Int) > 2147483647
  · go_wp2_with fail
    go_ret
    exact Told.no (Below.refl _ _)
  · go_wp2_with fail
    go_loopw [10] (fun i wr => ∃ k : Nat, k ≤ n ∧ i = .int .i64 (k : Int) ∧ Below w.heap.size w wr) (fun i _ => n - (intOf i).toNat)
    case atStart => exact ⟨0, by omega, rfl, Below.refl _ _⟩
    case round =>
      obtain ⟨k, hk, rfl, hB⟩ := hrel
      by_cases hlt : k < n
      · obtain ⟨b, o, rfl, hm1⟩ := HM.out k hlt
        have c1 := bcellv hB hm1
        clear hm1
        have g1 : (k : Int) < n := by omega
        have HB := Lib.hid hB
        clear hB
        by_cases hz : ((t k).size : Int) > 2147483647
        · go_wp2_with fail
          go_ret
          exact Told.no HB.out
        · go_wp2_with fail
          go_roundw
          case rel => exact ⟨k + 1, by omega, by go_num, HB.out⟩
          case measure => simp [intOf]; omega
      · obtain rfl : k = n := by omega
        have HB := Lib.hid hB
        clear hB
        go_wp2_with fail
        go_ret
        exact Told.yes (by unfold MX; omega) HB.out

end Go.Proofs.YtgnmgkpfgmpdfaaGreatDoor

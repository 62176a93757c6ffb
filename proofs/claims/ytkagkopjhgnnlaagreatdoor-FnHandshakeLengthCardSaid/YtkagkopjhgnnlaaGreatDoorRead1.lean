/- impl.HandshakeRead of bytes whose message is of no type: false, and nothing else. -/
import Derived.Test.YtkagkopjhgnnlaaGreatDoorUnm
import Derived.Lib.ConvBytes
import Derived.WideLaws
namespace Go.Proofs.YtkagkopjhgnnlaaGreatDoor
open Go.RowKit

/-- A text's bytes. -/
def sb (s : ByteArray) (j : Nat) : UInt8 := s.data.toList.getD j 0
abbrev hz : Array Value := #[.int .u8 0, .int .u32 0, .int .u16 0, .int .u32 0, .int .u32 0]

abbrev mz : Array Value := #[.int .u8 0, .bool false, .int .u8 0, .int .u8 0, .int .u32 0, .string { data := #[] }, .string { data := #[] }, .string { data := #[] }, .slice none 0 0, .slice none 0 0, .slice none 0 0, .slice none 0 0, .slice none 0 0, .slice none 0 0, .int .u16 0, .int .u16 0, .string { data := #[] }, .string { data := #[] }, .string { data := #[] }, .int .i64 0, .int .u8 0, .int .u16 0, .string { data := #[] }, .string { data := #[] }, .slice none 0 0]
theorem hz_one : hz.all (·.oneCell') = true := by kernel_rfl
theorem mz_one : mz.all (·.oneCell') = true := by kernel_rfl
/-- The world in which HandshakeRead turns its text into bytes. -/
abbrev W3 (w : World) (kx : Int) : World := ((w.alloc (.cells hz 26)).alloc (.cells mz 36)).alloc (.cells #[.int .u8 0, .int .u32 0, .int .u16 0, .int .u32 0, .int .u32 0, .nilIface, .int .i64 kx] 50)
theorem W3_size (w : World) (kx : Int) : (W3 w kx).heap.size = w.heap.size + 1 + 1 + 1 := by simp
theorem W3_h (w : World) (kx : Int) : (W3 w kx).heap[w.heap.size]? = some (.cells hz 26 (0, 0)) :=
  bblk ((Below.refl _ _).alloc (Nat.le_refl _) _) (bblk ((Below.refl _ _).alloc (Nat.le_refl _) _) (heap_alloc_new _ _))
theorem W3_m (w : World) (kx : Int) : (W3 w kx).heap[w.heap.size + 1]? = some (.cells mz 36 (0, 0)) := by
  have h := heap_alloc_new (w.alloc (.cells hz 26)) (.cells mz 36)
  rw [World.size_alloc] at h
  exact bblk ((Below.refl _ _).alloc (Nat.le_refl _) _) h
theorem W3_g (w : World) (kx : Int) : (W3 w kx).heap[w.heap.size + 1 + 1]? = some (.cells #[.int .u8 0, .int .u32 0, .int .u16 0, .int .u32 0, .int .u32 0, .nilIface, .int .i64 kx] 50 (0, 0)) := by
  have h := heap_alloc_new ((w.alloc (.cells hz 26)).alloc (.cells mz 36)) (.cells #[.int .u8 0, .int .u32 0, .int .u16 0, .int .u32 0, .int .u32 0, .nilIface, .int .i64 kx] 50)
  rw [World.size_alloc, World.size_alloc] at h
  exact h
theorem W3_below (w : World) (kx : Int) : Below w.heap.size w (W3 w kx) := (((Below.refl _ _).alloc (Nat.le_refl _) _).alloc (by simp) _).alloc (by simp; omega) _
theorem conv_below {B : Nat} {w W : World} (h : Below B w W) (hB : B ≤ W.heap.size) (s : ByteArray) : Below B w (Lib.bytesWorld W 5 s) :=
  h.trans ⟨rfl, rfl, rfl, by rw [Lib.bytesWorld_size]; omega, fun i hi => Lib.bytesWorld_at_old W 5 s i (by omega)⟩
theorem conv_chg (W : World) (s : ByteArray) (S : Nat → Prop) : Chg W (Lib.bytesWorld W 5 s) S := Chg.of_below (conv_below (Below.refl _ _) (Nat.le_refl _) s) S

theorem hs_start (w : World) (s : ByteArray) (g : Nat) (cs : Array Value) (hg : w.heap[g]? = some (.cells cs 50 (0, 0))) : Hs 50 g w.heap.size s.size (sb s) (Lib.bytesWorld w 5 s) (Lib.bytesWorld w 5 s) cs :=
  ⟨(Lib.bytesWorld_at_old w 5 s g (blt hg)).trans hg, fun j hj => Lib.bytesWorld_cell w 5 s j hj, by have := blt hg; omega, Chg.refl _ _⟩

theorem results_cct {P : Program} {fn : Func} {p q u : Tmp} {ty ty' : TypeId} (h : fn.results = #[.cell p ty, .cell q ty', .tmp u]) (tmps : Array Value) (w : World) (g g' : Nat) (t t' : TypeId) (cs cs' : Array Value) (fr fr' : Nat × Nat) (d d' : TypeDesc)
    (hp : tmps.getD p undef = .pointer (some ⟨g, 0, none⟩)) (hg : w.heap[g]? = some (.cells cs t fr))
    (hu : P.underlying ty = some d) (hd : (match d with | .struct _ | .array _ _ => true | _ => false) = true) (hi : (P.info? ty).map (·.size) = some cs.size)
    (hp' : tmps.getD q undef = .pointer (some ⟨g', 0, none⟩)) (hg' : w.heap[g']? = some (.cells cs' t' fr'))
    (hu' : P.underlying ty' = some d') (hd' : (match d' with | .struct _ | .array _ _ => true | _ => false) = true) (hi' : (P.info? ty').map (·.size) = some cs'.size) :
    (results fn tmps).run P w = .ok (.tuple #[.agg cs, .agg cs', tmps.getD u undef]) w := by
  have h1 : tmps[p]?.getD undef = .pointer (some ⟨g, 0, none⟩) := by simpa using hp
  have h2 : tmps[q]?.getD undef = .pointer (some ⟨g', 0, none⟩) := by simpa using hp'
  simp [results, h, h1, h2, asAddr, run_loadVar_row w g t ty cs fr d hg hu hd hi, run_loadVar_row w g' t' ty' cs' fr' d' hg' hu' hd' hi']

set_option maxHeartbeats 1000000 in
set_option maxRecDepth 100000 in
theorem read_unk (s : ByteArray) (kx : Int) (tp : TypeId) (ep : Option Addr) (w : World) (hn : 12 ≤ s.size) (hm : s.size ≤ 1000000)
    (hE : w.cell? ⟨1, 0, none⟩ = some (.iface tp (.pointer ep))) (hL : Lib.beNat [sb s 1, sb s 2, sb s 3] = s.size - 12) (hF : Lib.beNat [sb s 9, sb s 10, sb s 11] = s.size - 12)
    (hk : ∀ k, k ∈ [0, 1, 2, 3, 11, 12, 13, 14, 15, 16, 20] → (sb s 0).toNat ≠ k) :
    Calls Tryz.prog 7 #[.string s, .int .i64 kx] w fun e w' => e = .returned (.tuple #[.agg hz, .agg mz, .bool false]) ∧ Below w.heap.size w w' := by
  have hcv : ∀ W : World, (convert 9 30 (.string s)).run Tryz.prog W = .ok (.slice (some ⟨W.heap.size, 0, none⟩) s.size (grownCap W s.size 0 5)) (Lib.bytesWorld W 5 s) := fun W => Lib.run_convert_string_bytes W 9 30 5 s Tryz.underlying9 Tryz.underlying30 Tryz.underlying5
  go_enter Tryz.func7, Tryz.ntmps7
  go_wp2_with fail
  have hs0 := hs_start (W3 w kx) s _ _ (W3_g w kx)
  rw [W3_size] at hs0
  refine (unm_unk (w.heap.size + 1 + 1) (w.heap.size + 1 + 1 + 1) s.size _ (sb s) _ _ _ _ _ _ _ tp ep _ _ hn (grownCap_ge _ _ _ _) hm hs0 ?he (by omega) hL hF hk).mono ?_
  case he => exact (conv_chg _ _ (fun _ => False)).cell (bcellv (W3_below w kx) hE) (fun h => h)
  rintro e w1 ⟨rfl, H1⟩
  clear hs0 hk hL hF hE hcv
  have hh := (H1.chg.blk ((conv_chg _ s (fun _ => False)).blk (W3_h w kx) (fun h => h)) (fun h => by omega))
  have hm1 := (H1.chg.blk ((conv_chg _ s (fun _ => False)).blk (W3_m w kx) (fun h => h)) (fun h => by omega))
  go_wp2_with (first | (refine wpList_store_row (o := ⟨none, .store 26 (.tmp 4) (.tmp 16), _, _, _, _⟩) rfl 26 (.tmp 4) (.tmp 16) rfl w.heap.size hz rfl rfl 26 hz hh (by kernel_rfl) rfl hz_one ?_; rw [setRow_self _ _ _ _ _ hh]) | (refine wpList_store_row (o := ⟨none, .store 36 (.tmp 5) (.tmp 17), _, _, _, _⟩) rfl 36 (.tmp 5) (.tmp 17) rfl (w.heap.size + 1) mz rfl rfl 36 mz hm1 (by kernel_rfl) rfl mz_one ?_; rw [setRow_self _ _ _ _ _ hm1]))
  refine bodyPost_ret (results_cct rfl _ _ w.heap.size (w.heap.size + 1) 26 36 hz mz (0, 0) (0, 0) _ _ rfl hh Tryz.underlying26 rfl (by kernel_rfl) rfl hm1 Tryz.underlying36 rfl (by kernel_rfl)) rfl ?_
  exact ⟨rfl, ((W3_below w kx).trans ((conv_chg (W3 w kx) s (fun _ => False)).to_below (by rw [W3_size]; omega) (fun _ h => h.elim))).trans (H1.chg.to_below (by rw [Lib.bytesWorld_size, W3_size]; omega) (fun i h => by omega))⟩
end Go.Proofs.YtkagkopjhgnnlaaGreatDoor

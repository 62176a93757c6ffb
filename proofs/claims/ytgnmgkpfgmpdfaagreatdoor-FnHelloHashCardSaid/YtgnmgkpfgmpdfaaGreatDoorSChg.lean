/- SHA-256 over whole numbers: what both walks come to. No program in sight. -/
import Derived.Test.YtgnmgkpfgmpdfaaGreatDoorProg
import Derived.Below
import Derived.WalkKit
import Derived.Lib.Hide
set_option linter.unusedVariables false
set_option linter.unusedSimpArgs false
section
namespace Go.Proofs.YtgnmgkpfgmpdfaaGreatDoor
open Go.RowKit

/-- A word turned: a, b: the powers of two of 32 - n and n. -/
def ror (a b x : Int) : Int := bits .or .u32 (x * a % 4294967296) (x / b)
/-- A word of four bytes. -/
def word4 (d0 d1 d2 d3 : UInt8) : Int := bits .or .u32 (bits .or .u32 (bits .or .u32 ((d0.toNat : Int) % 4294967296 * 16777216 % 4294967296) ((d1.toNat : Int) % 4294967296 * 65536 % 4294967296)) ((d2.toNat : Int) % 4294967296 * 256 % 4294967296)) ((d3.toNat : Int) % 4294967296)
/-- The round's first sum. -/
def T1 (e f g h kc v : Int) : Int := IntKind.u32.wrap (IntKind.u32.wrap (IntKind.u32.wrap (IntKind.u32.wrap (h + bits .xor .u32 (bits .xor .u32 (ror 67108864 64 e) (ror 2097152 2048 e)) (ror 128 33554432 e)) + bits .xor .u32 (bits .and .u32 e f) (bits .and .u32 (bits .xor .u32 (if IntKind.u32.signed = true then -1 else IntKind.u32.max) e) g)) + kc) + v)
/-- The round's second sum. -/
def T2 (a b c : Int) : Int := (bits .xor .u32 (bits .xor .u32 (ror 1073741824 4 a) (ror 524288 8192 a)) (ror 1024 4194304 a) + bits .xor .u32 (bits .xor .u32 (bits .and .u32 a b) (bits .and .u32 a c)) (bits .and .u32 b c)) % 4294967296
/-- A later word. -/
def wordHi (v2 v7 v15 v16 : Int) : Int := ((((bits .xor .u32 (bits .xor .u32 (ror 32768 131072 v2) (ror 8192 524288 v2)) (v2 / 1024) + v7) % 4294967296 + bits .xor .u32 (bits .xor .u32 (ror 33554432 128 v15) (ror 16384 262144 v15)) (v15 / 8)) % 4294967296 + v16) % 4294967296)
/-- The rounds' constants. -/
def Kc : List Int := [1116352408, 1899447441, 3049323471, 3921009573, 961987163, 1508970993, 2453635748, 2870763221, 3624381080, 310598401, 607225278, 1426881987, 1925078388, 2162078206, 2614888103, 3248222580, 3835390401, 4022224774, 264347078, 604807628, 770255983, 1249150122, 1555081692, 1996064986, 2554220882, 2821834349, 2952996808, 3210313671, 3336571891, 3584528711, 113926993, 338241895, 666307205, 773529912, 1294757372, 1396182291, 1695183700, 1986661051, 2177026350, 2456956037, 2730485921, 2820302411, 3259730800, 3345764771, 3516065817, 3600352804, 4094571909, 275423344, 430227734, 506948616, 659060556, 883997877, 958139571, 1322822218, 1537002063, 1747873779, 1955562222, 2024104815, 2227730452, 2361852424, 2428436474, 2756734187, 3204031479, 3329325298]
/-- The words of a block. -/
def wd (m : Nat → Int) (t : Nat) : Int := if h : t < 16 then m t else wordHi (wd m (t - 2)) (wd m (t - 7)) (wd m (t - 15)) (wd m (t - 16))
termination_by t
decreasing_by all_goals omega
theorem wd_lo (m : Nat → Int) {t : Nat} (h : t < 16) : wd m t = m t := by rw [wd, dif_pos h]
theorem wd_hi (m : Nat → Int) {t : Nat} (h : 16 ≤ t) : wd m t = wordHi (wd m (t - 2)) (wd m (t - 7)) (wd m (t - 15)) (wd m (t - 16)) := by rw [wd, dif_neg (by omega)]
structure St8 where
  a : Int
  b : Int
  c : Int
  d : Int
  e : Int
  f : Int
  g : Int
  h : Int
/-- A round. -/
def rnd (kc v : Int) (s : St8) : St8 := ⟨(T1 s.e s.f s.g s.h kc v + T2 s.a s.b s.c) % 4294967296, s.a, s.b, s.c, (s.d + T1 s.e s.f s.g s.h kc v) % 4294967296, s.e, s.f, s.g⟩
def rounds (m : Nat → Int) (s : St8) : Nat → St8
  | 0 => s
  | k + 1 => rnd (Kc.getD k 0) (wd m k) (rounds m s k)
def addSt (s r : St8) : St8 := ⟨(s.a + r.a) % 4294967296, (s.b + r.b) % 4294967296, (s.c + r.c) % 4294967296, (s.d + r.d) % 4294967296, (s.e + r.e) % 4294967296, (s.f + r.f) % 4294967296, (s.g + r.g) % 4294967296, (s.h + r.h) % 4294967296⟩
/-- The first words of the block of the bytes from o on. -/
def blkWord (d : Nat → UInt8) (o i : Nat) : Int := word4 (d (o + i * 4)) (d (o + (i * 4 + 1))) (d (o + (i * 4 + 2))) (d (o + (i * 4 + 3)))
/-- The state behind a block. -/
def blk1 (d : Nat → UInt8) (o : Nat) (s : St8) : St8 := addSt s (rounds (blkWord d o) s 64)
/-- The state behind n blocks. -/
def shaN (d : Nat → UInt8) (s : St8) : Nat → St8
  | 0 => s
  | n + 1 => blk1 d (64 * n) (shaN d s n)
theorem wd_congr {m m' : Nat → Int} (h : ∀ i, i < 16 → m i = m' i) : ∀ n t, t ≤ n → wd m t = wd m' t := by
  intro n
  induction n with
  | zero => intro t ht; rw [wd_lo m (by omega), wd_lo m' (by omega)]; exact h t (by omega)
  | succ n ih =>
    intro t ht
    by_cases h16 : t < 16
    · rw [wd_lo m h16, wd_lo m' h16]; exact h t h16
    · rw [wd_hi m (by omega), wd_hi m' (by omega), ih _ (by omega), ih _ (by omega), ih _ (by omega), ih _ (by omega)]
theorem rounds_congr {m m' : Nat → Int} (h : ∀ i, i < 16 → m i = m' i) (s : St8) : ∀ k, rounds m s k = rounds m' s k := by
  intro k
  induction k with
  | zero => rfl
  | succ k ih => rw [rounds, rounds, ih, wd_congr h k k (Nat.le_refl _)]
theorem blk1_congr {d d' : Nat → UInt8} {o o' : Nat} (h : ∀ i, i < 64 → d (o + i) = d' (o' + i)) (s : St8) : blk1 d o s = blk1 d' o' s := by
  unfold blk1
  rw [rounds_congr (m' := blkWord d' o')]
  intro i hi
  unfold blkWord
  rw [h _ (by omega), h _ (by omega), h _ (by omega), h _ (by omega)]
theorem shaN_congr {d d' : Nat → UInt8} (s : St8) : ∀ n, (∀ i, i < 64 * n → d i = d' i) → shaN d s n = shaN d' s n := by
  intro n
  induction n with
  | zero => intro _; rfl
  | succ n ih =>
    intro h
    rw [shaN, shaN, ih (fun i hi => h i (by omega))]
    exact blk1_congr (fun i hi => h _ (by omega)) _
theorem shaN_add (d : Nat → UInt8) (s : St8) (a : Nat) : ∀ b, shaN d s (a + b) = shaN (fun i => d (64 * a + i)) (shaN d s a) b := by
  intro b
  induction b with
  | zero => rfl
  | succ b ih =>
    rw [← Nat.add_assoc, shaN, ih, shaN]
    exact blk1_congr (fun i _ => by show d _ = d _; congr 1; omega) _
/-- The state at the begin. -/
def sha0 : St8 := ⟨1779033703, 3144134277, 1013904242, 2773480762, 1359893119, 2600822924, 528734635, 1541459225⟩
end Go.Proofs.YtgnmgkpfgmpdfaaGreatDoor
end

/- math/bits.RotateLeft32 by the counts that sha256 uses. -/
section
namespace Go.Proofs.YtgnmgkpfgmpdfaaGreatDoor
open Go.RowKit

theorem rot2 (x : Int) (w : World) : Calls Tryz.prog 129 #[.int .u32 x, .int .i64 (-2)] w fun e w' => e = .returned (.int .u32 (ror 1073741824 4 x)) ∧ w' = w := by
  have hb : bits .and .u64 (IntKind.u64.wrap (-2)) 31 = 30 := by decide
  go_enter Tryz.func129, Tryz.ntmps129
  go_wp2
  go_ret
  exact ⟨rfl, rfl⟩
theorem rot6 (x : Int) (w : World) : Calls Tryz.prog 129 #[.int .u32 x, .int .i64 (-6)] w fun e w' => e = .returned (.int .u32 (ror 67108864 64 x)) ∧ w' = w := by
  have hb : bits .and .u64 (IntKind.u64.wrap (-6)) 31 = 26 := by decide
  go_enter Tryz.func129, Tryz.ntmps129
  go_wp2
  go_ret
  exact ⟨rfl, rfl⟩
theorem rot7 (x : Int) (w : World) : Calls Tryz.prog 129 #[.int .u32 x, .int .i64 (-7)] w fun e w' => e = .returned (.int .u32 (ror 33554432 128 x)) ∧ w' = w := by
  have hb : bits .and .u64 (IntKind.u64.wrap (-7)) 31 = 25 := by decide
  go_enter Tryz.func129, Tryz.ntmps129
  go_wp2
  go_ret
  exact ⟨rfl, rfl⟩
theorem rot11 (x : Int) (w : World) : Calls Tryz.prog 129 #[.int .u32 x, .int .i64 (-11)] w fun e w' => e = .returned (.int .u32 (ror 2097152 2048 x)) ∧ w' = w := by
  have hb : bits .and .u64 (IntKind.u64.wrap (-11)) 31 = 21 := by decide
  go_enter Tryz.func129, Tryz.ntmps129
  go_wp2
  go_ret
  exact ⟨rfl, rfl⟩
theorem rot13 (x : Int) (w : World) : Calls Tryz.prog 129 #[.int .u32 x, .int .i64 (-13)] w fun e w' => e = .returned (.int .u32 (ror 524288 8192 x)) ∧ w' = w := by
  have hb : bits .and .u64 (IntKind.u64.wrap (-13)) 31 = 19 := by decide
  go_enter Tryz.func129, Tryz.ntmps129
  go_wp2
  go_ret
  exact ⟨rfl, rfl⟩
theorem rot17 (x : Int) (w : World) : Calls Tryz.prog 129 #[.int .u32 x, .int .i64 (-17)] w fun e w' => e = .returned (.int .u32 (ror 32768 131072 x)) ∧ w' = w := by
  have hb : bits .and .u64 (IntKind.u64.wrap (-17)) 31 = 15 := by decide
  go_enter Tryz.func129, Tryz.ntmps129
  go_wp2
  go_ret
  exact ⟨rfl, rfl⟩
theorem rot18 (x : Int) (w : World) : Calls Tryz.prog 129 #[.int .u32 x, .int .i64 (-18)] w fun e w' => e = .returned (.int .u32 (ror 16384 262144 x)) ∧ w' = w := by
  have hb : bits .and .u64 (IntKind.u64.wrap (-18)) 31 = 14 := by decide
  go_enter Tryz.func129, Tryz.ntmps129
  go_wp2
  go_ret
  exact ⟨rfl, rfl⟩
theorem rot19 (x : Int) (w : World) : Calls Tryz.prog 129 #[.int .u32 x, .int .i64 (-19)] w fun e w' => e = .returned (.int .u32 (ror 8192 524288 x)) ∧ w' = w := by
  have hb : bits .and .u64 (IntKind.u64.wrap (-19)) 31 = 13 := by decide
  go_enter Tryz.func129, Tryz.ntmps129
  go_wp2
  go_ret
  exact ⟨rfl, rfl⟩
theorem rot22 (x : Int) (w : World) : Calls Tryz.prog 129 #[.int .u32 x, .int .i64 (-22)] w fun e w' => e = .returned (.int .u32 (ror 1024 4194304 x)) ∧ w' = w := by
  have hb : bits .and .u64 (IntKind.u64.wrap (-22)) 31 = 10 := by decide
  go_enter Tryz.func129, Tryz.ntmps129
  go_wp2
  go_ret
  exact ⟨rfl, rfl⟩
theorem rot25 (x : Int) (w : World) : Calls Tryz.prog 129 #[.int .u32 x, .int .i64 (-25)] w fun e w' => e = .returned (.int .u32 (ror 128 33554432 x)) ∧ w' = w := by
  have hb : bits .and .u64 (IntKind.u64.wrap (-25)) 31 = 7 := by decide
  go_enter Tryz.func129, Tryz.ntmps129
  go_wp2
  go_ret
  exact ⟨rfl, rfl⟩
end Go.Proofs.YtgnmgkpfgmpdfaaGreatDoor
end

/- What a call may change: plain facts on worlds, no program in sight. -/
section
namespace Go.Proofs.YtgnmgkpfgmpdfaaGreatDoor
open Go.RowKit

/-- 'w'' is 'w' with new blocks, and other contents of the blocks of S alone. -/
structure Chg (w w' : World) (S : Nat → Prop) : Prop where
  os : w'.os = w.os
  tape : w'.tape = w.tape
  output : w'.output = w.output
  size : w.heap.size ≤ w'.heap.size
  block : ∀ k, k < w.heap.size → ¬ S k → w'.heap[k]? = w.heap[k]?
theorem Chg.refl (w : World) (S : Nat → Prop) : Chg w w S := ⟨rfl, rfl, rfl, Nat.le_refl _, fun _ _ _ => rfl⟩
theorem Chg.trans {w w1 w2 : World} {S S1 : Nat → Prop} (h : Chg w w1 S) (k : Chg w1 w2 S1) (hs : ∀ i, i < w.heap.size → S1 i → S i) : Chg w w2 S :=
  ⟨k.os.trans h.os, k.tape.trans h.tape, k.output.trans h.output, Nat.le_trans h.size k.size,
   fun i hi hn => (k.block i (Nat.lt_of_lt_of_le hi h.size) (fun h1 => hn (hs i hi h1))).trans (h.block i hi hn)⟩
theorem Chg.of_below {w w' : World} (h : Below w.heap.size w w') (S : Nat → Prop) : Chg w w' S := ⟨h.os, h.tape, h.output, h.size, fun i hi _ => h.block i hi⟩
theorem Chg.to_below {B : Nat} {w w' : World} {S : Nat → Prop} (h : Chg w w' S) (hB : B ≤ w.heap.size) (hS : ∀ i, S i → B ≤ i) : Below B w w' :=
  ⟨h.os, h.tape, h.output, h.size, fun i hi => h.block i (by omega) (fun h1 => by have := hS i h1; omega)⟩
theorem Chg.alloc {w w' : World} {S : Nat → Prop} (h : Chg w w' S) (o : Obj) : Chg w (w'.alloc o) S := h.trans (Chg.of_below ((Below.refl _ _).alloc (Nat.le_refl _) o) (fun _ => False)) (fun _ _ h => h.elim)
theorem Chg.drew {w w' : World} {S : Nat → Prop} (h : Chg w w' S) : Chg w w'.drew S := ⟨h.os, h.tape, h.output, h.size, h.block⟩
theorem Chg.setCell {w w' : World} {S : Nat → Prop} (h : Chg w w' S) {p : Addr} (hp : S p.block ∨ w.heap.size ≤ p.block) (u : Value) : Chg w (w'.setCell p u) S :=
  h.trans (S1 := fun i => i = p.block) ⟨rfl, rfl, rfl, by simp [World.setCell], fun i _ hn => Below.heap_setCell w' p u i hn⟩ (fun i hi h1 => by subst h1; exact hp.elim id (fun hp => by omega))
theorem Chg.below {w w1 w2 : World} {S : Nat → Prop} (h : Chg w w1 S) (k : Below w1.heap.size w1 w2) : Chg w w2 S := h.trans (Chg.of_below k (fun _ => False)) (fun _ _ h => h.elim)
theorem blt {w : World} {g : Nat} {o : Obj} (h : w.heap[g]? = some o) : g < w.heap.size := (Array.getElem?_eq_some_iff.1 h).1
theorem Chg.blk {w w' : World} {S : Nat → Prop} (h : Chg w w' S) {g : Nat} {o : Obj} (hb : w.heap[g]? = some o) (hn : ¬ S g) : w'.heap[g]? = some o := (h.block g (blt hb) hn).trans hb
theorem Chg.cell {w w' : World} {S : Nat → Prop} (h : Chg w w' S) {a : Addr} {v : Value} (hc : w.cell? a = some v) (hn : ¬ S a.block) : w'.cell? a = some v := by
  have := h.block a.block (World.block_lt_of_cell? w a hc) hn
  simpa [World.cell?, this] using hc
theorem bblk {w w' : World} (h : Below w.heap.size w w') {g : Nat} {o : Obj} (hb : w.heap[g]? = some o) : w'.heap[g]? = some o := (h.block g (blt hb)).trans hb
theorem bcellv {w w' : World} (h : Below w.heap.size w w') {a : Addr} {v : Value} (hc : w.cell? a = some v) : w'.cell? a = some v := (h.cell (World.block_lt_of_cell? w a hc)).trans hc
theorem bset {w : World} {g : Nat} {t : TypeId} {cs : Array Value} (h : w.heap[g]? = some (.cells cs t (0, 0))) (i : Nat) (u : Value) : (w.setCell ⟨g, i, none⟩ u).heap[g]? = some (.cells (cs.setIfInBounds i u) t (0, 0)) := by
  simp [World.setCell, Array.getElem?_modify, h]
theorem bcell {w : World} {g : Nat} {t : TypeId} {cs : Array Value} (h : w.heap[g]? = some (.cells cs t (0, 0))) (i : Nat) : w.cell? ⟨g, i, none⟩ = cs[i]? := cell_of_row w g i cs t (0, 0) h
theorem bfrozen {w : World} {g : Nat} {t : TypeId} {cs : Array Value} (h : w.heap[g]? = some (.cells cs t (0, 0))) (i : Nat) : w.frozen? ⟨g, i, none⟩ = false := by simp [World.frozen?, h]
end Go.Proofs.YtgnmgkpfgmpdfaaGreatDoor
end

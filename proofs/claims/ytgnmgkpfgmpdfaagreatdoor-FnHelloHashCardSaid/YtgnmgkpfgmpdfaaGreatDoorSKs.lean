/- makeKeyShare. -/
import Derived.Test.YtgnmgkpfgmpdfaaGreatDoorSSig
import Derived.Test.YtgnmgkpfgmpdfaaGreatDoorSLate
import Derived.Test.YtgnmgkpfgmpdfaaGreatDoorSExt
import Derived.Deep.CutRange
import Derived.Deep.CutBlock
import Derived.Deep.DeepCutAuto
set_option linter.unusedVariables false
set_option linter.unusedSimpArgs false
namespace Go.Proofs.YtgnmgkpfgmpdfaaGreatDoor
open Go.RowKit

theorem info289 : (Tryz.prog.info? 289).map (fun i => (i.zero, i.size, i.bytes)) = some (some (.agg #[.int .u16 0, .slice none 0 0]), 2, 32) := by kernel_rfl
theorem u283 : Tryz.prog.underlying 283 = some (.slice 289) := by kernel_rfl
theorem load28 (W : World) (p : Addr) (u : Value) (h : W.cell? p = some u) : (Instr.loadAt 28 (.pointer (some p))).run Tryz.prog W = .ok u W := by
  simp [go_sem, Instr.loadAt, Instr.sureAddr, loadVar, h]
theorem load283 (W : World) (p : Addr) (u : Value) (h : W.cell? p = some u) : (Instr.loadAt 283 (.pointer (some p))).run Tryz.prog W = .ok u W := by
  simp [go_sem, Instr.loadAt, Instr.sureAddr, loadVar, h]
/-- Behind a step: the extension and the share stand, the share's first field is a row of one's own. -/
structure KsSt (d : ED) (w : World) (n : Nat) (v a b : Value) (wr : World) : Prop where
  he : wr.heap[w.heap.size]? = some (.cells d.es 69 (0, 0))
  hx : wr.heap[w.heap.size + 1]? = some (.cells #[v, a, b] 287 (0, 0))
  ho : ∃ xs, wr.ownsRow w.heap.size 289 2 v n xs
  hb : Below w.heap.size w wr
theorem KsSt.more {d : ED} {w wr wr' : World} {n : Nat} {v a b : Value} (h : KsSt d w n v a b wr) (hb : Below wr.heap.size wr wr') : KsSt d w n v a b wr' :=
  ⟨bblk hb h.he, bblk hb h.hx, by obtain ⟨xs, ho⟩ := h.ho; exact ⟨xs, own_low ho hb⟩, h.hb.trans (hb.mono h.hb.size)⟩
theorem KsSt.first {d : ED} {w wr : World} {v : Value} (h : KsSt d w 0 v (.pointer none) (.pointer none) wr) :
    KsSt d w 0 (.slice (some ⟨wr.heap.size, 0, none⟩) 0 0) (.pointer none) (.pointer none) ((wr.alloc (Obj.cells #[] 289)).setCell ⟨w.heap.size + 1, 0, none⟩ (.slice (some ⟨wr.heap.size, 0, none⟩) 0 0)) := by
  have h1 := h.more ((Below.refl wr.heap.size wr).alloc (Nat.le_refl _) (Obj.cells #[] 289))
  have hlt := blt h.hx
  refine ⟨?_, bset h1.hx 0 _, ⟨[], rfl, .inr ⟨wr.heap.size, 0, #[], rfl, h.hb.size, ?_, Nat.le_refl _, Nat.zero_le _, rfl, rfl⟩⟩, h1.hb.setCell (p := ⟨w.heap.size + 1, 0, none⟩) (by simp) _⟩
  · exact (Below.heap_setCell _ ⟨w.heap.size + 1, 0, none⟩ _ w.heap.size (by simp)).trans h1.he
  · exact (Below.heap_setCell _ ⟨w.heap.size + 1, 0, none⟩ _ wr.heap.size (by show wr.heap.size ≠ w.heap.size + 1; omega)).trans (heap_alloc_new _ _)
theorem KsSt.put1 {d : ED} {w wr : World} {n : Nat} {v a b : Value} (h : KsSt d w n v a b wr) (u : Value) : KsSt d w n v u b (wr.setCell ⟨w.heap.size + 1, 1, none⟩ u) := by
  obtain ⟨xs, ho⟩ := h.ho
  exact ⟨(Below.heap_setCell _ ⟨w.heap.size + 1, 1, none⟩ _ w.heap.size (by simp)).trans h.he, bset h.hx 1 _, ⟨xs, ho.kept (Lib.grownBy_setCell wr (w.heap.size + 1) 1 _) (.inr (Ne.symm (row_ne2 ho h.hx (by decide))))⟩, h.hb.setCell (p := ⟨w.heap.size + 1, 1, none⟩) (by simp) _⟩
theorem load65 (W : World) (p : Addr) (u : Value) (h : W.cell? p = some u) : (Instr.loadAt 65 (.pointer (some p))).run Tryz.prog W = .ok u W := by
  simp [go_sem, Instr.loadAt, Instr.sureAddr, loadVar, h]
/-- The first place of a slice that is not empty. -/
theorem idxAt65 {b o n c : Nat} (hn : 0 < n) (w : World) : (Instr.indexAt 65 (.slice (some ⟨b, o, none⟩) n c) (.int .i64 0)).run Tryz.prog w = .ok (.pointer (some ⟨b, o, none⟩)) w := by
  simp [Instr.indexAt, go_sem, hn, Addr.add]
theorem idx0 {a : Act} {x : Operand} {b o n c d : Nat} (ty : TypeId) (pos : String) (af : Array Edge) (hx : a.eval x = .slice (some ⟨b, o, none⟩) n c) (hn : 0 < n) (w : World) :
    (execOp a.eval ⟨some d, .indexAddr 65 x (.const (.int .i64 0)), ty, pos, af, none⟩).run Tryz.prog w = .ok (.value (.pointer (some ⟨b, o, none⟩))) w := by
  have h0 : a.eval (.const (.int .i64 0)) = .int .i64 0 := rfl
  unfold execOp
  simp only [hx, h0, Sem.run_bind, idxAt65 hn w, Result.andThen_ok, Sem.run_pure]
/-- Behind the append, ahead of the store: the row has grown. -/
theorem ks_step {d : ED} {w Y w4 : World} {k g : Nat} {q q' : Option Addr} {l c l' c' : Nat} {xs ys : List Value} {b0 : Int} {z0 : ByteArray} (h : KsSt d w k (.slice q l c) (.pointer none) (.pointer none) Y)
    (hg : Y.heap[g]? = some (Obj.cells #[.int .u16 b0, .string z0] 115))
    (hxs : Y.ownsRow w.heap.size 289 2 (.slice q l c) k xs) (hv : w4.ownsRow w.heap.size 289 2 (.slice q' l' c') (k + 1) ys) (hgr : Y.grownBy w4 (Value.slice q l c).ownBlock) :
    (w4.cell? ⟨g, 0, none⟩ = some (.int .u16 b0) ∧ w4.cell? ⟨g, 1, none⟩ = some (.string z0) ∧ w4.cell? ⟨w.heap.size + 1, 0, none⟩ = some (.slice q l c)) ∧
      w4.heap[w.heap.size]? = some (.cells d.es 69 (0, 0)) ∧ w4.heap[w.heap.size + 1]? = some (.cells #[.slice q l c, .pointer none, .pointer none] 287 (0, 0)) ∧ w4.ownsRow w.heap.size 289 2 (.slice q' l' c') (k + 1) ys ∧ Below w.heap.size w w4 := by
  have e1 : w4.heap[w.heap.size]? = some (.cells d.es 69 (0, 0)) := (hgr.block _ (blt h.he) (row_ne2 hxs h.he (by decide))).trans h.he
  have e2 : w4.heap[w.heap.size + 1]? = some (.cells #[.slice q l c, .pointer none, .pointer none] 287 (0, 0)) := (hgr.block _ (blt h.hx) (row_ne2 hxs h.hx (by decide))).trans h.hx
  have e3 : w4.heap[g]? = some (Obj.cells #[.int .u16 b0, .string z0] 115) := (hgr.block _ (blt hg) (row_ne2 hxs hg (by decide))).trans hg
  exact ⟨⟨(bcell e3 0).trans rfl, (bcell e3 1).trans rfl, (bcell e2 0).trans rfl⟩, e1, e2, hv, h.hb.grown hgr h.hb.size (fun k' hk' => (hxs.lt k' hk').1)⟩
theorem ks_store {d : ED} {w w4 : World} {k : Nat} {q : Option Addr} {l c : Nat} {v : Value} {ys : List Value}
    (h : w4.heap[w.heap.size]? = some (.cells d.es 69 (0, 0)) ∧ w4.heap[w.heap.size + 1]? = some (.cells #[.slice q l c, .pointer none, .pointer none] 287 (0, 0)) ∧ w4.ownsRow w.heap.size 289 2 v k ys ∧ Below w.heap.size w w4) :
    KsSt d w k v (.pointer none) (.pointer none) (w4.setCell ⟨w.heap.size + 1, 0, none⟩ v) :=
  ⟨(Below.heap_setCell _ ⟨w.heap.size + 1, 0, none⟩ _ w.heap.size (by simp)).trans h.1, bset h.2.1 0 _, ⟨ys, h.2.2.1.kept (Lib.grownBy_setCell w4 (w.heap.size + 1) 0 _) (.inr (Ne.symm (row_ne2 h.2.2.1 h.2.1 (by decide))))⟩, h.2.2.2.setCell (p := ⟨w.heap.size + 1, 0, none⟩) (by simp) _⟩
set_option maxHeartbeats 2000000 in
set_option maxRecDepth 100000 in
theorem mk118 (d : ED) (w : World) (hx : Ext w d) (hf : Fit d) : MkOk 118 d.es w := by
  have HX := Lib.hid hx
  have gm : (d.n8 : Int) ≤ 2147483647 := by have h : d.n8 ≤ 2147483647 := hf.n8; omega
  unfold MkOk
  clear hx hf
  go_enter Tryz.func118, Tryz.ntmps118
  go_upto_region 2 with fail
  change Code.wp _ _ _ _ ((w.alloc (Obj.cells d.es 69)).alloc (Obj.cells #[.slice none 0 0, .pointer none, .pointer none] 287))
  have hS : KsSt d w 0 (.slice none 0 0) (.pointer none) (.pointer none) ((w.alloc (Obj.cells d.es 69)).alloc (Obj.cells #[.slice none 0 0, .pointer none, .pointer none] 287)) :=
    ⟨by rw [heap_alloc_old _ _ (by simp)]; exact heap_alloc_new _ _, by have h := heap_alloc_new (w.alloc (Obj.cells d.es 69)) (Obj.cells #[.slice none 0 0, .pointer none, .pointer none] 287); rwa [World.size_alloc] at h, ⟨[], World.ownsRow_nil _ _ _ _⟩,
      ((Below.refl _ _).alloc (Nat.le_refl _) _).alloc (by simp) _⟩
  generalize (w.alloc (Obj.cells d.es 69)).alloc (Obj.cells #[.slice none 0 0, .pointer none, .pointer none] 287) = w1 at hS ⊢
  have HS := Lib.hid hS
  clear hS
  go_cut [24] (fun c wc => (∃ b, c = .bool b) ∧ KsSt d w 0 (.slice none 0 0) (.pointer none) (.pointer none) wc)
  case first =>
    have k8 := (bcell HS.out.he 8).trans (ED.g8 d)
    have k9 := (bcell HS.out.he 9).trans (ED.g9 d)
    have k10 := (bcell HS.out.he 10).trans (ED.g10 d)
    by_cases h8 : (d.n8 : Int) > 0
    · go_wp2_with fail
      go_meet
      case rel => exact ⟨⟨_, rfl⟩, HS.out⟩
    · by_cases h9 : (d.n9 : Int) = 0
      · go_wp2_with fail
        go_meet
        case rel => exact ⟨⟨_, rfl⟩, HS.out⟩
      · go_wp2_with fail
        go_meet
        case rel => exact ⟨⟨_, rfl⟩, HS.out⟩
  case rest =>
    obtain ⟨⟨b, rfl⟩, hS1⟩ := hcut
    clear HS
    have HS := Lib.hid hS1
    clear hS1
    go_upto_if 24 with fail
    go_cut [] (fun wc => ∃ q l c, KsSt d w 0 (.slice q l c) (.pointer none) (.pointer none) wc)
    case first =>
      have hX' := (HS.out.more ((Below.refl wc.heap.size wc).alloc (Nat.le_refl _) (Obj.cells #[] 289))).hx
      have f0 := bfrozen hX' 0
      have c0 : (wc.alloc (Obj.cells #[] 289)).cell? ⟨w.heap.size + 1, 0, none⟩ = some (.slice none 0 0) := (bcell hX' 0).trans rfl
      clear hX'
      cases b
      · go_wp2_with fail
        go_meet
        case rel => exact ⟨_, _, _, HS.out⟩
      · go_wp2_with fail
        go_meet
        case rel => exact ⟨_, _, _, HS.out.first⟩
    case rest =>
      obtain ⟨q, l, c, hS2⟩ := hcut
      clear HS
      have HS := Lib.hid hS2
      clear hS2
      have k8 := (bcell HS.out.he 8).trans (ED.g8 d)
      go_wp2_with fail
      go_loopw [32] (fun i wr => ∃ (k : Nat) (q : Option Addr) (l c : Nat), k ≤ d.n8 ∧ i = .int .i64 (k : Int) ∧ KsSt d w k (.slice q l c) (.pointer none) (.pointer none) wr) (fun i _ => d.n8 - (intOf i).toNat)
      case atStart => exact ⟨0, _, _, _, by omega, rfl, HS.out⟩
      case round =>
        obtain ⟨k, q, l, c, hk, rfl, hS⟩ := hrel
        by_cases hlt : k < d.n8
        · obtain ⟨b, o, e8, hm1, hm2⟩ := HX.out.r8 k hlt
          have c1 := bcellv hS.hb hm1
          have c2 := bcellv hS.hb hm2
          have g1 : (k : Int) < d.n8 := by omega
          clear hm1 hm2
          have hld : (Instr.loadAt 115 (.pointer (some ⟨b, o + k * 2, none⟩))).run Tryz.prog wr = .ok (.agg #[.int .u16 (d.a8 k), .string (d.z8 k)]) wr :=
            run_loadAt_mid wr b (o + k * 2) 115 [.int .u16 (d.a8 k), .string (d.z8 k)] _ (fun j u hj => by
              match j, hj with
              | 0, hj => simp at hj; subst hj; exact c1
              | 1, hj => simp at hj; subst hj; exact c2
              | j + 2, hj => simp at hj) Tryz.underlying115 rfl (by kernel_rfl)
          have HS := Lib.hid hS
          clear hS
          go_upto_block 1 with fail
          go_cut [] (fun wx => ∃ q l c, KsSt d w (k + 1) (.slice q l c) (.pointer none) (.pointer none) wx)
          case first =>
            go_upto_region 7 with (refine wpList_store_row (o := ⟨none, .store 115 (.tmp 5) (.tmp 35), _, _, _, _⟩) rfl 115 (.tmp 5) (.tmp 35) rfl wr.heap.size #[.int .u16 (d.a8 k), .string (d.z8 k)] (by kernel_rfl) (by kernel_rfl) 115 #[.int .u16 0, .string ⟨#[]⟩] (heap_alloc_new wr _) (by kernel_rfl) rfl (by kernel_rfl) ?_; change wpList _ _ _ _ _ ((wr.alloc (Obj.cells #[.int .u16 0, .string ⟨#[]⟩] 115)).setRow wr.heap.size _); rw [setRow_alloc])
            have hS6 := HS.out.more ((Below.refl wr.heap.size wr).alloc (Nat.le_refl _) (Obj.cells #[.int .u16 (d.a8 k), .string (d.z8 k)] 115))
            have hT6 := heap_alloc_new wr (Obj.cells #[.int .u16 (d.a8 k), .string (d.z8 k)] 115)
            generalize wr.alloc (Obj.cells #[.int .u16 (d.a8 k), .string (d.z8 k)] 115) = w6 at hS6 hT6 ⊢
            clear c1 c2 hld
            have HS6 := Lib.hid hS6
            have HT6 := Lib.hid hT6
            clear hS6 hT6
            have hW := HS6.out.more (Below.refl w6.heap.size w6).drew
            have hT : w6.drew.heap[wr.heap.size]? = some (Obj.cells #[.int .u16 (d.a8 k), .string (d.z8 k)] 115) := HT6.out
            refine wp_region_late (S := fun w' => w'.cell? ⟨wr.heap.size, 0, none⟩ = some (.int .u16 (d.a8 k)) ∧ w'.cell? ⟨wr.heap.size, 1, none⟩ = some (.string (d.z8 k)) ∧ w'.cell? ⟨w.heap.size + 1, 0, none⟩ = some (.slice q l c)) (c := 15) (by kernel_rfl) ?_
            change wpAnyL _ _ _ _ _ _ 16 _ _ w6.drew
            generalize w6.drew = W at hW hT ⊢
            have hS0 : W.cell? ⟨wr.heap.size, 0, none⟩ = some (.int .u16 (d.a8 k)) ∧ W.cell? ⟨wr.heap.size, 1, none⟩ = some (.string (d.z8 k)) ∧ W.cell? ⟨w.heap.size + 1, 0, none⟩ = some (.slice q l c) := ⟨(bcell hT 0).trans rfl, (bcell hT 1).trans rfl, (bcell hW.hx 0).trans rfl⟩
            have HW := Lib.hid hW
            have HT := Lib.hid hT
            clear hW hT
            refine wpAnyL_takeG (i := 0) (d := 36) (g := none) (op := .move (.tmp 3)) (v := .pointer (some ⟨w.heap.size + 1, 0, none⟩)) (by kernel_rfl) (by kernel_rfl) (by kernel_rfl) (by kernel_rfl) (by kernel_rfl) (fun _ _ _ h => h) rfl (fun _ _ _ _ _ => by kernel_rfl) hS0 ?_
            refine wpAnyL_takeG (i := 1) (d := 37) (g := none) (op := .move (.tmp 3)) (v := .pointer (some ⟨w.heap.size + 1, 0, none⟩)) (by kernel_rfl) (by kernel_rfl) (by kernel_rfl) (by kernel_rfl) (by kernel_rfl) (fun _ _ _ h => h) rfl (fun _ _ _ _ _ => by kernel_rfl) hS0 ?_
            refine wpAnyL_takeG (i := 2) (d := 38) (g := none) (op := .nilCheck (.tmp 37)) (v := .pointer (some ⟨w.heap.size + 1, 0, none⟩)) (by kernel_rfl) (by kernel_rfl) (by kernel_rfl) (by kernel_rfl) (by kernel_rfl) (fun _ _ _ h => h) rfl (fun _ _ _ _ _ => by kernel_rfl) hS0 ?_
            refine wpAnyL_takeG (i := 3) (d := 39) (g := none) (op := .fieldAddr 287 (.tmp 38) 0) (v := .pointer (some ⟨w.heap.size + 1, 0, none⟩)) (by kernel_rfl) (by kernel_rfl) (by kernel_rfl) (by kernel_rfl) (by kernel_rfl) (fun _ _ _ h => h) rfl (fun _ _ _ _ _ => by kernel_rfl) hS0 ?_
            refine wpAnyL_takeG (i := 5) (d := 41) (g := none) (op := .fieldAddr 115 (.tmp 5) 0) (v := .pointer (some ⟨wr.heap.size, 0, none⟩)) (by kernel_rfl) (by kernel_rfl) (by kernel_rfl) (by kernel_rfl) (by kernel_rfl) (fun _ _ _ h => h) rfl (fun _ _ _ _ _ => by kernel_rfl) hS0 ?_
            refine wpAnyL_takeG (i := 7) (d := 43) (g := none) (op := .fieldAddr 115 (.tmp 5) 1) (v := .pointer (some ⟨wr.heap.size, 1, none⟩)) (by kernel_rfl) (by kernel_rfl) (by kernel_rfl) (by kernel_rfl) (by kernel_rfl) (fun _ _ _ h => h) rfl (fun _ _ _ _ _ => by kernel_rfl) hS0 ?_
            refine wpAnyL_ld (i := 4) (d := 40) (t := 283) (x := .tmp 39) (p := ⟨w.heap.size + 1, 0, none⟩) (u := .slice q l c) (by kernel_rfl) (by kernel_rfl) (by kernel_rfl) (by kernel_rfl) (by kernel_rfl) (fun _ _ _ h => h) (by kernel_rfl) (fun w1 h1 => load283 w1 _ _ h1.2.2) hS0 ?_
            refine wpAnyL_ld (i := 6) (d := 42) (t := 28) (x := .tmp 41) (p := ⟨wr.heap.size, 0, none⟩) (u := .int .u16 (d.a8 k)) (by kernel_rfl) (by kernel_rfl) (by kernel_rfl) (by kernel_rfl) (by kernel_rfl) (fun _ _ _ h => h) (by kernel_rfl) (fun w1 h1 => load28 w1 _ _ h1.1) hS0 ?_
            refine wpAnyL_ld (i := 8) (d := 44) (t := 9) (x := .tmp 43) (p := ⟨wr.heap.size, 1, none⟩) (u := .string (d.z8 k)) (by kernel_rfl) (by kernel_rfl) (by kernel_rfl) (by kernel_rfl) (by kernel_rfl) (fun _ _ _ h => h) (by kernel_rfl) (fun w1 h1 => load9 w1 _ _ h1.2.1) hS0 ?_
            have hb2 := bytesWorld_below W 5 (d.z8 k)
            have hW2 := HW.out.more hb2
            have hS2 := And.intro (bcellv hb2 hS0.1) (And.intro (bcellv hb2 hS0.2.1) (bcellv hb2 hS0.2.2))
            refine wpAnyL_conv (i := 9) (d := 45) (x := .tmp 44) (s := d.z8 k) (by kernel_rfl) (by kernel_rfl) (by kernel_rfl) hS2 ?_
            generalize Lib.bytesWorld W 5 (d.z8 k) = V at hb2 hW2 hS2 ⊢
            generalize grownCap W (d.z8 k).size 0 5 = cz
            clear hS0
            refine wpAnyL_takeG (i := 10) (d := 46) (g := none) (op := .build 289 #[(0, .tmp 42), (1, .tmp 45)]) (v := .agg #[.int .u16 (d.a8 k), .slice (some ⟨W.heap.size, 0, none⟩) (d.z8 k).size cz]) (by kernel_rfl) (by kernel_rfl) (by kernel_rfl) (by kernel_rfl) (by kernel_rfl) (fun _ _ _ h => h) rfl (fun _ _ _ _ _ => by kernel_rfl) hS2 ?_
            have hb3 := (Below.refl V.heap.size V).alloc (Nat.le_refl _) (Obj.cells #[.int .u16 (d.a8 k), .slice (some ⟨W.heap.size, 0, none⟩) (d.z8 k).size cz] 289)
            have hS3 := And.intro (bcellv hb3 hS2.1) (And.intro (bcellv hb3 hS2.2.1) (bcellv hb3 hS2.2.2))
            have hW3 := hW2.more hb3
            have hN3 := heap_alloc_new V (Obj.cells #[.int .u16 (d.a8 k), .slice (some ⟨W.heap.size, 0, none⟩) (d.z8 k).size cz] 289)
            refine wpAnyL_seq (i := 11) (d := 47) (op := .buildSlice 283 1 #[(0, .tmp 46)]) (v := .slice (some ⟨V.heap.size, 0, none⟩) 1 1) (w' := V.alloc (Obj.cells #[.int .u16 (d.a8 k), .slice (some ⟨W.heap.size, 0, none⟩) (d.z8 k).size cz] 289)) (by kernel_rfl) (by kernel_rfl) (fun _ _ _ => by kernel_rfl) hS3 ?_
            generalize V.alloc (Obj.cells #[.int .u16 (d.a8 k), .slice (some ⟨W.heap.size, 0, none⟩) (d.z8 k).size cz] 289) = Y at hb3 hS3 hW3 hN3 ⊢
            have HW3 := Lib.hid hW3
            have HS3 := Lib.hid hS3
            have HN3 := Lib.hid hN3
            have HT3 := Lib.hid (bblk hb3 (bblk hb2 HT.out))
            clear hW3 hS3 hN3 hb3 hW2 hS2 hb2 HW HT
            obtain ⟨xs, hxs⟩ := HW3.out.ho
            have HXS := Lib.hid hxs
            clear hxs
            refine wpAnyL_list (i := 12) (o := ⟨some 48, _, _, _, _, _⟩) (by kernel_rfl) rfl rfl ?_
            refine app_two rfl (.tmp 40) (.tmp 47) 283 289 (.agg #[.int .u16 0, .slice none 0 0]) 32 rfl u283 info289 rfl (by decide) w.heap.size (.slice q l c) k xs (by kernel_rfl) HXS.out V.heap.size 1 _ _ (by kernel_rfl) ((bcell HN3.out 0).trans rfl) ((bcell HN3.out 1).trans rfl) rfl rfl (by omega) HW3.out.hb.size ?_
            intro v' w4 hv hgr
            obtain ⟨q', l', c', rfl⟩ := own_slice hv
            obtain ⟨hS4, hW4⟩ := ks_step (b0 := d.a8 k) (z0 := d.z8 k) HW3.out HT3.out HXS.out hv hgr
            have HW4 := Lib.hid hW4
            clear hW4 hv hgr
            refine ⟨.inr hS4, ?_⟩
            refine wpAnyL_seq (i := 13) (d := 49) (op := .nilCheck (.tmp 36)) (v := .pointer (some ⟨w.heap.size + 1, 0, none⟩)) (w' := w4) (by kernel_rfl) (by kernel_rfl) (fun _ _ _ => by kernel_rfl) hS4 ?_
            refine wpAnyL_seq (i := 14) (d := 50) (op := .fieldAddr 287 (.tmp 49) 0) (v := .pointer (some ⟨w.heap.size + 1, 0, none⟩)) (w' := w4) (by kernel_rfl) (by kernel_rfl) (fun _ _ _ => by kernel_rfl) hS4 ?_
            refine wpAnyL_list (i := 15) (o := ⟨none, .store 283 (.tmp 50) (.tmp 48), _, _, _, _⟩) (by kernel_rfl) rfl rfl ?_
            have c0 := hS4.2.2
            have f0 := bfrozen HW4.out.2.1 0
            have hfin := ks_store HW4.out
            have HF := Lib.hid hfin
            clear hfin
            simp only [Act.put, List.setIfInBounds_toArray, List.set_cons_zero, List.set_cons_succ]
            go_wp2_with fail
            refine ⟨.inl (by trivial), wpAnyL_done (by kernel_rfl) ?_ _⟩
            go_wp2_with fail
            go_meet
            case rel => exact ⟨_, _, _, HF.out⟩
          case rest =>
            obtain ⟨q', l', c', hS7⟩ := hcut
            have HS7 := Lib.hid hS7
            clear hS7
            go_wp2_with fail
            go_roundw
            case rel => exact ⟨k + 1, q', l', c', by omega, by go_num, HS7.out⟩
            case measure => simp [intOf]; omega
        · have g1 : ¬ (k : Int) < d.n8 := by omega
          have k9 := (bcell hS.he 9).trans (ED.g9 d)
          have HS := Lib.hid hS
          clear hS hlt hk
          go_upto_if 55 with fail
          go_cut [] (fun wx => ∃ a, KsSt d w k (.slice q l c) a (.pointer none) wx)
          case first =>
            by_cases h9 : (d.n9 : Int) > 0
            · obtain ⟨b9, o9, e9, hm1, hm2⟩ := HX.out.r9 0 (by omega)
              have hc1 := bcellv HS.out.hb hm1
              have hc2 := bcellv HS.out.hb hm2
              simp only [Nat.zero_mul, Nat.add_zero] at hc1 hc2
              have h9' : 0 < d.n9 := by omega
              have k9' : wr.cell? ⟨w.heap.size, 9, none⟩ = some (.slice (some ⟨b9, o9, none⟩) d.n9 d.c9) := by rw [← e9]; exact k9
              clear hm1 hm2 k9
              go_upto_region 10 with fail
              have hW := HS.out.more (Below.refl wr.heap.size wr).drew
              have hS0 : wr.drew.cell? ⟨w.heap.size, 9, none⟩ = some (.slice (some ⟨b9, o9, none⟩) d.n9 d.c9) ∧ wr.drew.cell? ⟨b9, o9, none⟩ = some (.int .u16 (d.a9 0)) ∧ wr.drew.cell? ⟨b9, o9 + 1, none⟩ = some (.string (d.z9 0)) := ⟨k9', hc1, hc2⟩
              refine wp_region_late (S := fun w' => w'.cell? ⟨w.heap.size, 9, none⟩ = some (.slice (some ⟨b9, o9, none⟩) d.n9 d.c9) ∧ w'.cell? ⟨b9, o9, none⟩ = some (.int .u16 (d.a9 0)) ∧ w'.cell? ⟨b9, o9 + 1, none⟩ = some (.string (d.z9 0))) (c := 16) (by kernel_rfl) ?_
              change wpAnyL _ _ _ _ _ _ 17 _ _ wr.drew
              generalize wr.drew = W at hW hS0 ⊢
              clear k9' hc1 hc2
              have HW := Lib.hid hW
              clear hW
              refine wpAnyL_takeG (i := 0) (d := 56) (g := none) (op := .move (.tmp 3)) (v := .pointer (some ⟨w.heap.size + 1, 0, none⟩)) (by kernel_rfl) (by kernel_rfl) (by kernel_rfl) (by kernel_rfl) (by kernel_rfl) (fun _ _ _ h => h) rfl (fun _ _ _ _ _ => by kernel_rfl) hS0 ?_
              refine wpAnyL_takeG (i := 1) (d := 57) (g := none) (op := .fieldAddr 69 (.tmp 1) 9) (v := .pointer (some ⟨w.heap.size, 9, none⟩)) (by kernel_rfl) (by kernel_rfl) (by kernel_rfl) (by kernel_rfl) (by kernel_rfl) (fun _ _ _ h => h) rfl (fun _ _ _ _ _ => by kernel_rfl) hS0 ?_
              refine wpAnyL_ld (i := 2) (d := 58) (t := 65) (x := .tmp 57) (p := ⟨w.heap.size, 9, none⟩) (u := .slice (some ⟨b9, o9, none⟩) d.n9 d.c9) (by kernel_rfl) (by kernel_rfl) (by kernel_rfl) (by kernel_rfl) (by kernel_rfl) (fun _ _ _ h => h) (by kernel_rfl) (fun w1 h1 => load65 w1 _ _ h1.1) hS0 ?_
              refine wpAnyL_takeG (i := 3) (d := 59) (g := none) (op := .indexAddr 65 (.tmp 58) (.const (.int .i64 0))) (v := .pointer (some ⟨b9, o9, none⟩)) (by kernel_rfl) (by kernel_rfl) (by kernel_rfl) (by kernel_rfl) (by kernel_rfl) (fun _ _ _ h => h) rfl (fun ty pos af w1 _ => idx0 (b := b9) (o := o9) (n := d.n9) (c := d.c9) _ _ _ (by kernel_rfl) h9' w1) hS0 ?_
              refine wpAnyL_takeG (i := 4) (d := 60) (g := none) (op := .fieldAddr 115 (.tmp 59) 0) (v := .pointer (some ⟨b9, o9, none⟩)) (by kernel_rfl) (by kernel_rfl) (by kernel_rfl) (by kernel_rfl) (by kernel_rfl) (fun _ _ _ h => h) rfl (fun _ _ _ _ _ => by kernel_rfl) hS0 ?_
              refine wpAnyL_ld (i := 5) (d := 61) (t := 28) (x := .tmp 60) (p := ⟨b9, o9, none⟩) (u := .int .u16 (d.a9 0)) (by kernel_rfl) (by kernel_rfl) (by kernel_rfl) (by kernel_rfl) (by kernel_rfl) (fun _ _ _ h => h) (by kernel_rfl) (fun w1 h1 => load28 w1 _ _ h1.2.1) hS0 ?_
              refine wpAnyL_takeG (i := 6) (d := 62) (g := none) (op := .fieldAddr 69 (.tmp 1) 9) (v := .pointer (some ⟨w.heap.size, 9, none⟩)) (by kernel_rfl) (by kernel_rfl) (by kernel_rfl) (by kernel_rfl) (by kernel_rfl) (fun _ _ _ h => h) rfl (fun _ _ _ _ _ => by kernel_rfl) hS0 ?_
              refine wpAnyL_ld (i := 7) (d := 63) (t := 65) (x := .tmp 62) (p := ⟨w.heap.size, 9, none⟩) (u := .slice (some ⟨b9, o9, none⟩) d.n9 d.c9) (by kernel_rfl) (by kernel_rfl) (by kernel_rfl) (by kernel_rfl) (by kernel_rfl) (fun _ _ _ h => h) (by kernel_rfl) (fun w1 h1 => load65 w1 _ _ h1.1) hS0 ?_
              refine wpAnyL_takeG (i := 8) (d := 64) (g := none) (op := .indexAddr 65 (.tmp 63) (.const (.int .i64 0))) (v := .pointer (some ⟨b9, o9, none⟩)) (by kernel_rfl) (by kernel_rfl) (by kernel_rfl) (by kernel_rfl) (by kernel_rfl) (fun _ _ _ h => h) rfl (fun ty pos af w1 _ => idx0 (b := b9) (o := o9) (n := d.n9) (c := d.c9) _ _ _ (by kernel_rfl) h9' w1) hS0 ?_
              refine wpAnyL_takeG (i := 9) (d := 65) (g := none) (op := .fieldAddr 115 (.tmp 64) 1) (v := .pointer (some ⟨b9, o9 + 1, none⟩)) (by kernel_rfl) (by kernel_rfl) (by kernel_rfl) (by kernel_rfl) (by kernel_rfl) (fun _ _ _ h => h) rfl (fun _ _ _ _ _ => by kernel_rfl) hS0 ?_
              refine wpAnyL_ld (i := 10) (d := 66) (t := 9) (x := .tmp 65) (p := ⟨b9, o9 + 1, none⟩) (u := .string (d.z9 0)) (by kernel_rfl) (by kernel_rfl) (by kernel_rfl) (by kernel_rfl) (by kernel_rfl) (fun _ _ _ h => h) (by kernel_rfl) (fun w1 h1 => load9 w1 _ _ h1.2.2) hS0 ?_
              have hb2 := bytesWorld_below W 5 (d.z9 0)
              have hW2 := HW.out.more hb2
              have hS2 := And.intro (bcellv hb2 hS0.1) (And.intro (bcellv hb2 hS0.2.1) (bcellv hb2 hS0.2.2))
              refine wpAnyL_conv (i := 11) (d := 67) (x := .tmp 66) (s := d.z9 0) (by kernel_rfl) (by kernel_rfl) (by kernel_rfl) hS2 ?_
              generalize Lib.bytesWorld W 5 (d.z9 0) = V at hb2 hW2 hS2 ⊢
              generalize grownCap W (d.z9 0).size 0 5 = cz
              clear hS0
              refine wpAnyL_seq (i := 12) (d := 68) (op := .build 289 #[(0, .tmp 61), (1, .tmp 67)]) (v := .agg #[.int .u16 (d.a9 0), .slice (some ⟨W.heap.size, 0, none⟩) (d.z9 0).size cz]) (w' := V) (by kernel_rfl) (by kernel_rfl) (fun _ _ _ => by kernel_rfl) hS2 ?_
              have hb3 := (Below.refl V.heap.size V).alloc (Nat.le_refl _) (Obj.cells #[.int .u16 (d.a9 0), .slice (some ⟨W.heap.size, 0, none⟩) (d.z9 0).size cz] 289)
              have hS3 := And.intro (bcellv hb3 hS2.1) (And.intro (bcellv hb3 hS2.2.1) (bcellv hb3 hS2.2.2))
              have hW3 := hW2.more hb3
              refine wpAnyL_seq (i := 13) (d := 69) (op := .box 289 (.tmp 68)) (v := .pointer (some ⟨V.heap.size, 0, none⟩)) (w' := V.alloc (Obj.cells #[.int .u16 (d.a9 0), .slice (some ⟨W.heap.size, 0, none⟩) (d.z9 0).size cz] 289)) (by kernel_rfl) (by kernel_rfl) (fun _ _ _ => by kernel_rfl) hS3 ?_
              generalize V.alloc (Obj.cells #[.int .u16 (d.a9 0), .slice (some ⟨W.heap.size, 0, none⟩) (d.z9 0).size cz] 289) = Y at hb3 hS3 hW3 ⊢
              refine wpAnyL_seq (i := 14) (d := 70) (op := .nilCheck (.tmp 56)) (v := .pointer (some ⟨w.heap.size + 1, 0, none⟩)) (w' := Y) (by kernel_rfl) (by kernel_rfl) (fun _ _ _ => by kernel_rfl) hS3 ?_
              refine wpAnyL_seq (i := 15) (d := 71) (op := .fieldAddr 287 (.tmp 70) 1) (v := .pointer (some ⟨w.heap.size + 1, 1, none⟩)) (w' := Y) (by kernel_rfl) (by kernel_rfl) (fun _ _ _ => by kernel_rfl) hS3 ?_
              have c0 : Y.cell? ⟨w.heap.size + 1, 1, none⟩ = some (.pointer none) := (bcell hW3.hx 1).trans rfl
              have f0 := bfrozen hW3.hx 1
              have HF := Lib.hid (hW3.put1 (.pointer (some ⟨V.heap.size, 0, none⟩)))
              clear hW3 hb3 hS3 hW2 hS2 hb2 HW
              refine wpAnyL_list (i := 16) (o := ⟨none, .store 284 (.tmp 71) (.tmp 69), _, _, _, _⟩) (by kernel_rfl) rfl rfl ?_
              simp only [Act.put, List.setIfInBounds_toArray, List.set_cons_zero, List.set_cons_succ]
              go_wp2_with fail
              refine ⟨by kernel_rfl, ?_⟩
              go_wp2_with fail
              go_meet
              case rel => exact ⟨_, HF.out⟩
            · go_wp2_with fail
              go_meet
              case rel => exact ⟨_, HS.out⟩
          case rest =>
            obtain ⟨v1, hS9⟩ := hcut
            clear k9 HS
            have k10 := (bcell hS9.he 10).trans (ED.g10 d)
            have HS := Lib.hid hS9
            clear hS9
            go_upto_if 75 with fail
            go_cut [] (fun wx => Below w.heap.size w wx)
            case first =>
              by_cases h10 : (d.n10 : Int) > 0
              · obtain ⟨b9, o9, e9, hm1⟩ := HX.out.r10 0 (by omega)
                have hc1 := bcellv HS.out.hb hm1
                simp only [Nat.add_zero] at hc1
                have g10 : (0 : Int) < d.n10 := by omega
                have k10' : wc.cell? ⟨w.heap.size, 10, none⟩ = some (.slice (some ⟨b9, o9, none⟩) d.n10 d.c10) := by rw [← e9]; exact k10
                have hb2 := (Below.refl wc.heap.size wc).alloc (Nat.le_refl _) (Obj.cells #[.int .u16 (d.u10 0)] 156)
                have hS2 := HS.out.more hb2
                have c0 : (wc.alloc (Obj.cells #[.int .u16 (d.u10 0)] 156)).cell? ⟨w.heap.size + 1, 2, none⟩ = some (.pointer none) := (bcell hS2.hx 2).trans rfl
                have f0 := bfrozen hS2.hx 2
                have HF := Lib.hid (hS2.hb.setCell (p := ⟨w.heap.size + 1, 2, none⟩) (by simp) (.pointer (some ⟨wc.heap.size, 0, none⟩)))
                clear hm1 k10 hb2 hS2 e9
                go_wp2_with fail
                go_meet
                case rel => exact HF.out
              · go_wp2_with fail
                go_meet
                case rel => exact HS.out.hb
            case rest =>
              have HB := Lib.hid hcut
              clear hcut HS k10
              go_wp2_with fail
              go_ret
              exact ⟨⟨_, rfl⟩, HB.out⟩
end Go.Proofs.YtgnmgkpfgmpdfaaGreatDoor

/- A message's cells; laws.zzFits5. -/
import Derived.Test.YtgnmgkpfgmpdfaaGreatDoorSFitB
set_option linter.unusedVariables false
set_option linter.unusedSimpArgs false
namespace Go.Proofs.YtgnmgkpfgmpdfaaGreatDoor
open Go.RowKit

/-- A message's data. -/
structure MD where
  x0 : Int
  b1 : Bool
  x2 : Int
  x3 : Int
  x4 : Int
  s5 : ByteArray
  s6 : ByteArray
  s7 : ByteArray
  p8 : Option Addr
  n8 : Nat
  c8 : Nat
  p9 : Option Addr
  n9 : Nat
  c9 : Nat
  p10 : Option Addr
  n10 : Nat
  c10 : Nat
  p11 : Option Addr
  n11 : Nat
  c11 : Nat
  p12 : Option Addr
  n12 : Nat
  c12 : Nat
  p13 : Option Addr
  n13 : Nat
  c13 : Nat
  x14 : Int
  x15 : Int
  s16 : ByteArray
  s17 : ByteArray
  s18 : ByteArray
  x19 : Int
  x20 : Int
  x21 : Int
  s22 : ByteArray
  s23 : ByteArray
  p24 : Option Addr
  n24 : Nat
  c24 : Nat
  u8 : Nat → Int
  u9 : Nat → Int
  D10 : Nat → ED
  t11 : Nat → ByteArray
  z24 : Nat → ByteArray
  q24 : Nat → Option Addr
  m24 : Nat → Nat
  k24 : Nat → Nat
def MD.es (d : MD) : Array Value := #[.int .u8 d.x0, .bool d.b1, .int .u8 d.x2, .int .u8 d.x3, .int .u32 d.x4, .string d.s5, .string d.s6, .string d.s7, .slice d.p8 d.n8 d.c8, .slice d.p9 d.n9 d.c9, .slice d.p10 d.n10 d.c10, .slice d.p11 d.n11 d.c11, .slice d.p12 d.n12 d.c12, .slice d.p13 d.n13 d.c13, .int .u16 d.x14, .int .u16 d.x15, .string d.s16, .string d.s17, .string d.s18, .int .i64 d.x19, .int .u8 d.x20, .int .u16 d.x21, .string d.s22, .string d.s23, .slice d.p24 d.n24 d.c24]
theorem MD.g0 (d : MD) : d.es[0]? = some (.int .u8 d.x0) := rfl
theorem MD.g1 (d : MD) : d.es[1]? = some (.bool d.b1) := rfl
theorem MD.g2 (d : MD) : d.es[2]? = some (.int .u8 d.x2) := rfl
theorem MD.g3 (d : MD) : d.es[3]? = some (.int .u8 d.x3) := rfl
theorem MD.g4 (d : MD) : d.es[4]? = some (.int .u32 d.x4) := rfl
theorem MD.g5 (d : MD) : d.es[5]? = some (.string d.s5) := rfl
theorem MD.g6 (d : MD) : d.es[6]? = some (.string d.s6) := rfl
theorem MD.g7 (d : MD) : d.es[7]? = some (.string d.s7) := rfl
theorem MD.g8 (d : MD) : d.es[8]? = some (.slice d.p8 d.n8 d.c8) := rfl
theorem MD.g9 (d : MD) : d.es[9]? = some (.slice d.p9 d.n9 d.c9) := rfl
theorem MD.g10 (d : MD) : d.es[10]? = some (.slice d.p10 d.n10 d.c10) := rfl
theorem MD.g11 (d : MD) : d.es[11]? = some (.slice d.p11 d.n11 d.c11) := rfl
theorem MD.g12 (d : MD) : d.es[12]? = some (.slice d.p12 d.n12 d.c12) := rfl
theorem MD.g13 (d : MD) : d.es[13]? = some (.slice d.p13 d.n13 d.c13) := rfl
theorem MD.g14 (d : MD) : d.es[14]? = some (.int .u16 d.x14) := rfl
theorem MD.g15 (d : MD) : d.es[15]? = some (.int .u16 d.x15) := rfl
theorem MD.g16 (d : MD) : d.es[16]? = some (.string d.s16) := rfl
theorem MD.g17 (d : MD) : d.es[17]? = some (.string d.s17) := rfl
theorem MD.g18 (d : MD) : d.es[18]? = some (.string d.s18) := rfl
theorem MD.g19 (d : MD) : d.es[19]? = some (.int .i64 d.x19) := rfl
theorem MD.g20 (d : MD) : d.es[20]? = some (.int .u8 d.x20) := rfl
theorem MD.g21 (d : MD) : d.es[21]? = some (.int .u16 d.x21) := rfl
theorem MD.g22 (d : MD) : d.es[22]? = some (.string d.s22) := rfl
theorem MD.g23 (d : MD) : d.es[23]? = some (.string d.s23) := rfl
theorem MD.g24 (d : MD) : d.es[24]? = some (.slice d.p24 d.n24 d.c24) := rfl
theorem MD.one (d : MD) : d.es.all (·.oneCell') = true := by kernel_rfl
/-- The data are there. -/
structure MsgR (w : World) (d : MD) : Prop where
  h4 : 0 ≤ d.x4 ∧ d.x4 < 4294967296
  r8 : Sl1 w d.p8 d.n8 fun j => .int .u16 (d.u8 j)
  z8 : ∀ j, j < d.n8 → 0 ≤ d.u8 j ∧ d.u8 j < 65536
  o9 : NilOk d.p9 d.n9 d.c9
  r9 : Sl1 w d.p9 d.n9 fun j => .int .u8 (d.u9 j)
  o10 : NilOk d.p10 d.n10 d.c10
  r10 : SlE w d.p10 d.n10 d.D10
  o11 : NilOk d.p11 d.n11 d.c11
  r11 : Sl1 w d.p11 d.n11 fun j => .string (d.t11 j)
  o24 : NilOk d.p24 d.n24 d.c24
  r24 : SlN w d.p24 d.n24 d.z24 d.q24 d.m24 d.k24
theorem MsgR.below {w w' : World} {d : MD} (h : MsgR w d) (hb : Below w.heap.size w w') : MsgR w' d :=
  { h with r8 := h.r8.below hb, r9 := h.r9.below hb, r10 := h.r10.below hb, r11 := h.r11.below hb, r24 := h.r24.below hb }

set_option maxHeartbeats 4000000 in
set_option maxRecDepth 100000 in
theorem fits5 (d : MD) (w : World) (hx : MsgR w d) : Tell 5 #[.agg d.es] w (d.n10 ≤ MX ∧ ∀ j, j < d.n10 → Fit (d.D10 j)) := by
  have HX := Lib.hid hx
  unfold Tell
  clear hx
  go_enter Tryz.func5, Tryz.ntmps5
  go_upto_region 1 with fail
  change Code.wp _ _ _ _ (w.alloc (Obj.cells d.es 31))
  have hB1 : Below w.heap.size w (w.alloc (Obj.cells d.es 31)) := (Below.refl _ _).alloc (Nat.le_refl _) _
  have hM1 := heap_alloc_new w (Obj.cells d.es 31)
  generalize w.alloc (Obj.cells d.es 31) = w1 at hB1 hM1 ⊢
  have HB1 := Lib.hid hB1
  have HM1 := Lib.hid hM1
  clear hB1 hM1
  have k5 := (bcell HM1.out 5).trans (MD.g5 d)
  by_cases h5 : (d.s5.size : Int) > 2147483647
  · go_wp2_with fail
    go_ret
    exact Told.no HB1.out
  · have k6 := (bcell HM1.out 6).trans (MD.g6 d)
    by_cases h6 : (d.s6.size : Int) > 2147483647
    · go_wp2_with fail
      go_ret
      exact Told.no HB1.out
    · have k7 := (bcell HM1.out 7).trans (MD.g7 d)
      by_cases h7 : (d.s7.size : Int) > 2147483647
      · go_wp2_with fail
        go_ret
        exact Told.no HB1.out
      · have k8 := (bcell HM1.out 8).trans (MD.g8 d)
        by_cases h8 : (d.n8 : Int) > 2147483647
        · go_wp2_with fail
          go_ret
          exact Told.no HB1.out
        · have k9 := (bcell HM1.out 9).trans (MD.g9 d)
          by_cases h9 : (d.n9 : Int) > 2147483647
          · go_wp2_with fail
            go_ret
            exact Told.no HB1.out
          · have k10 := (bcell HM1.out 10).trans (MD.g10 d)
            go_wp2_with fail
            refine (fits9 d.p10 d.n10 d.c10 d.D10 w1 HX.out.o10 (HX.out.r10.below HB1.out)).mono ?_
            rintro e w110 ⟨b, rfl, h10, hb110⟩
            have HM110 := Lib.hid (bblk hb110 HM1.out)
            have HB110 := Lib.hid (HB1.out.trans (hb110.mono HB1.out.size))
            have F110 := Lib.hid h10
            clear hb110 h10
            dsimp only
            cases b
            · go_wp2_with fail
              go_ret
              exact Told.no HB110.out
            · have k11 := (bcell HM110.out 11).trans (MD.g11 d)
              go_wp2_with fail
              refine (fits11 d.p11 d.n11 d.c11 d.t11 w110 HX.out.o11 (HX.out.r11.below HB110.out)).mono ?_
              rintro e w111 ⟨b, rfl, h11, hb111⟩
              have HM111 := Lib.hid (bblk hb111 HM110.out)
              have HB111 := Lib.hid (HB110.out.trans (hb111.mono HB110.out.size))
              have F111 := Lib.hid h11
              clear hb111 h11
              dsimp only
              cases b
              · go_wp2_with fail
                go_ret
                exact Told.no HB111.out
              · have k12 := (bcell HM111.out 12).trans (MD.g12 d)
                by_cases h12 : (d.n12 : Int) > 2147483647
                · go_wp2_with fail
                  go_ret
                  exact Told.no HB111.out
                · have k13 := (bcell HM111.out 13).trans (MD.g13 d)
                  by_cases h13 : (d.n13 : Int) > 2147483647
                  · go_wp2_with fail
                    go_ret
                    exact Told.no HB111.out
                  · have k16 := (bcell HM111.out 16).trans (MD.g16 d)
                    by_cases h16 : (d.s16.size : Int) > 2147483647
                    · go_wp2_with fail
                      go_ret
                      exact Told.no HB111.out
                    · have k17 := (bcell HM111.out 17).trans (MD.g17 d)
                      by_cases h17 : (d.s17.size : Int) > 2147483647
                      · go_wp2_with fail
                        go_ret
                        exact Told.no HB111.out
                      · have k18 := (bcell HM111.out 18).trans (MD.g18 d)
                        by_cases h18 : (d.s18.size : Int) > 2147483647
                        · go_wp2_with fail
                          go_ret
                          exact Told.no HB111.out
                        · have k22 := (bcell HM111.out 22).trans (MD.g22 d)
                          by_cases h22 : (d.s22.size : Int) > 2147483647
                          · go_wp2_with fail
                            go_ret
                            exact Told.no HB111.out
                          · have k23 := (bcell HM111.out 23).trans (MD.g23 d)
                            by_cases h23 : (d.s23.size : Int) > 2147483647
                            · go_wp2_with fail
                              go_ret
                              exact Told.no HB111.out
                            · have k24 := (bcell HM111.out 24).trans (MD.g24 d)
                              go_wp2_with fail
                              refine (fits12 d.p24 d.n24 d.c24 d.z24 d.q24 d.m24 d.k24 w111 HX.out.o24 (HX.out.r24.below HB111.out)).mono ?_
                              rintro e w124 ⟨b, rfl, h24, hb124⟩
                              have HM124 := Lib.hid (bblk hb124 HM111.out)
                              have HB124 := Lib.hid (HB111.out.trans (hb124.mono HB111.out.size))
                              have F124 := Lib.hid h24
                              clear hb124 h24
                              dsimp only
                              cases b
                              · go_wp2_with fail
                                go_ret
                                exact Told.no HB124.out
                              · go_wp2_with fail
                                go_ret
                                exact Told.yes (F110.out (by trivial)) HB124.out

end Go.Proofs.YtgnmgkpfgmpdfaaGreatDoor

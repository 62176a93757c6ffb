/- Proved: laws.FnHandshakeLength returns true for every header and cookie. Conditions: those of the row alone (the three listed package variables read as the program lays them). -/
import Derived.Test.YtkagkopjhgnnlaaGreatDoorTie
import Derived.Test.YtkagkopjhgnnlaaGreatDoorCards
import Derived.Test.YtkagkopjhgnnlaaGreatDoorLenSame
import Derived.Test.YtkagkopjhgnnlaaGreatDoorLenOther
import Derived.Test.YtkagkopjhgnnlaaGreatDoorLenBig
import Derived.ChangeSame
import Derived.ChangeVars
import Derived.JoinedOf
import Derived.RowKit
import Derived.RowKitTokens
import Derived.LaidLaws
import Derived.LaidMore
import Derived.LaidHandle
import Derived.ProofKit
import Derived.OpenShut
import Derived.ChangeMaps5
import Derived.Stop.Joined
import Derived.Stop.LaidErr
namespace Go.Proofs.YtkagkopjhgnnlaaGreatDoor
open Go.ChangeShapes Go.WideShapes Go.RowKit Go.ChangeAt Go.WideMaps Go.ChangeMaps

theorem own : ownKnob Tryz.prog.godebug = none := by kernel_rfl
abbrev laid3 : List (String × DataW Unit) := [("pub-convoy/pub/dtls/pkg/protocol/handshake.errBufferTooSmall", Rows.laid_pub_convoy_pub_dtls_pkg_protocol_handshake_errBufferTooSmall), ("pub-convoy/pub/dtls/pkg/protocol/handshake.errLengthMismatch", Rows.laid_pub_convoy_pub_dtls_pkg_protocol_handshake_errLengthMismatch), ("pub-convoy/pub/dtls/pkg/protocol/handshake.errNotImplemented", Rows.laid_pub_convoy_pub_dtls_pkg_protocol_handshake_errNotImplemented)]
theorem gMis : Tryz.prog.globalNamed "pub-convoy/pub/dtls/pkg/protocol/handshake.errLengthMismatch" = some 0 := by kernel_rfl
theorem gMisType : (Tryz.prog.globals[0]?).map (·.type) = some 52 := by kernel_rfl
theorem cells328 : Tryz.prog.cellsOf 328 = 1 := by kernel_rfl
theorem cells9 : Tryz.prog.cellsOf 9 = 1 := by kernel_rfl
theorem star : "*" ++ "errors.errorString" = "*errors.errorString" := by decide
theorem row253 (u : TypeId) (h : Tryz.prog.typeName? 3 u = some "*errors.errorString") : u = 253 :=
  typeName_ptr_named (nm := "errors.errorString") (by rw [star]; kernel_rfl) (by kernel_rfl) (by decide) u (by rw [star]; exact h)

theorem mis_of_laid {W : World} (h : laidMetH Tryz.prog laid3 W) : ∃ a : Addr, W.cell? ⟨0, 0, none⟩ = some (.iface 253 (.pointer (some a))) := by
  rw [MakeChecks.laidMetH_plain _ _ _ (by kernel_rfl)] at h
  obtain ⟨a, s, hv, _, _, _⟩ := laid_sentinel h.tail gMis gMisType Tryz.underlying52 row253 Tryz.underlying253 Tryz.underlying328 rfl rfl Tryz.underlying9 cells328 cells9
  exact ⟨a, by simpa using World.var?_cell gMis hv 0⟩

theorem door_met (os : Os) (args : Array Value) : laidMetH Tryz.prog laid3 ((World.doorLaid Tryz.prog 598 os).forCall (fun _ _ => 0) ⟨#[], args, []⟩).memory :=
  laidMetH_of_parts3 (fuel := 8) (laidMet_of_run' 8 (by kernel_rfl) (by kernel_rfl)) (by kernel_rfl) (by kernel_rfl)

theorem cells26 : Tryz.prog.cellsOf 26 = 5 := by kernel_rfl
theorem cells5 : Tryz.prog.cellsOf 5 = 1 := by kernel_rfl
theorem cells22 : Tryz.prog.cellsOf 22 = 1 := by kernel_rfl
theorem cells24 : Tryz.prog.cellsOf 24 = 1 := by kernel_rfl
section
variable {H : Type} {enc : TypeId × Value → H} {w : World} {base : Nat} {sp : Nat → Bool} {held : Bool}
set_option maxRecDepth 100000 in
/-- A header, opened. -/
theorem open_head {r : Reach} {b0 : Nat} {v : Value} {d : DataW H} {ps : List MemPlace} (hval : Value.okWide Tryz.prog w r b0 26 v) (hd : DataW.Trod enc Tryz.prog w base sp held 26 v d ps) :
    ∃ t l s o f, v = .agg #[.int .u8 t, .int .u32 l, .int .u16 s, .int .u32 o, .int .u32 f] ∧ d = .agg [.lit (.int .u8 t), .lit (.int .u32 l), .lit (.int .u16 s), .lit (.int .u32 o), .lit (.int .u32 f)] ∧ ps = [] ∧
      (Lit.int .u8 t).wf = true ∧ (Lit.int .u32 l).wf = true ∧ (Lit.int .u16 s).wf = true ∧ (Lit.int .u32 o).wf = true ∧ (Lit.int .u32 f).wf = true := by
  obtain ⟨⟨cl⟩, rfl, hsz⟩ := okWide_struct Tryz.underlying26 hval
  rw [cells26] at hsz
  match cl, hsz with
  | [c0, c1, c2, c3, c4], _ =>
    obtain ⟨fuel, hf0⟩ := hd
    simp only [Value.cells] at hf0
    obtain ⟨ys, m, _, hx, _, hl, hf⟩ := DataW.trod_struct Tryz.underlying26 hf0
    match ys, hl with
    | [y0, y1, y2, y3, y4], _ =>
      have hy0 := hf 0 _ rfl
      have hy1 := hf 1 _ rfl
      have hy2 := hf 2 _ rfl
      have hy3 := hf 3 _ rfl
      have hy4 := hf 4 _ rfl
      simp [cells5, cells22, cells24] at hy0 hy1 hy2 hy3 hy4
      obtain ⟨t, e0, rfl, s0⟩ := DataW.trod_int Tryz.underlying5 hy0
      obtain ⟨l, e1, rfl, s1⟩ := DataW.trod_int Tryz.underlying24 hy1
      obtain ⟨s, e2, rfl, s2⟩ := DataW.trod_int Tryz.underlying22 hy2
      obtain ⟨o, e3, rfl, s3⟩ := DataW.trod_int Tryz.underlying24 hy3
      obtain ⟨f, e4, rfl, s4⟩ := DataW.trod_int Tryz.underlying24 hy4
      simp at e0 e1 e2 e3 e4
      subst e0 e1 e2 e3 e4
      simp only [Prod.mk.injEq] at hx
      exact ⟨t, l, s, o, f, rfl, by simpa using hx.1, by simpa using hx.2, s0, s1, s2, s3, s4⟩
set_option maxRecDepth 100000 in
/-- A header, shut. -/
theorem shut_head {t l s o f : Int} (s0 : (Lit.int .u8 t).wf = true) (s1 : (Lit.int .u32 l).wf = true) (s2 : (Lit.int .u16 s).wf = true) (s3 : (Lit.int .u32 o).wf = true) (s4 : (Lit.int .u32 f).wf = true) :
    DataW.Trod enc Tryz.prog w base sp held 26 (.agg #[.int .u8 t, .int .u32 l, .int .u16 s, .int .u32 o, .int .u32 f]) (.agg [.lit (.int .u8 t), .lit (.int .u32 l), .lit (.int .u16 s), .lit (.int .u32 o), .lit (.int .u32 f)]) [] :=
  ⟨2, by simp [DataW.trod, Value.cells, Tryz.underlying26, Tryz.underlying5, Tryz.underlying22, Tryz.underlying24, cells26, cells5, cells22, cells24, s0, s1, s2, s3, s4]⟩
end

theorem len_all (t l s o f : Int) (c : ByteArray) (tp : TypeId) (ep : Option Addr) (w : World) (hE : w.cell? ⟨0, 0, none⟩ = some (.iface tp (.pointer ep)))
    (hl : 0 ≤ l) (hl1 : l < 4294967296) (hf : 0 ≤ f) (hf1 : f < 4294967296) (hs : 0 ≤ s) (hs1 : s < 65536) :
    Calls Tryz.prog 4 #[.agg #[.int .u8 t, .int .u32 l, .int .u16 s, .int .u32 o, .int .u32 f], .string c] w fun e w' => e = .returned (.bool true) ∧ Below w.heap.size w w' := by
  by_cases hc : c.size ≤ 255
  · by_cases hX : l % 16777216 = (vb c).size ∧ f % 16777216 = (vb c).size
    · exact len_same t l s o f c tp ep w hE hc hl hl1 hf hf1 hs hs1 hX
    · exact len_other t l s o f c tp ep w hE hc hl hl1 hf hf1 hs hs1 hX
  · exact len_big t l s o f c w hc

set_option maxRecDepth 100000 in
theorem len_lifted (os : Os) (started : os.Started) (H : Type) (enc : TypeId × Value → H) :
    ReturnsInHanded {} Tryz.checked os 4 .any (fun w args => (Rows.fnHandshakeLengthSpec.pre enc Tryz.prog Tryz.f4 [] false w args ∧ laidMetH Tryz.prog laid3 w) ∧ sizedMet enc Tryz.prog Tryz.f4 (OpenSpec.ofChange Rows.fnHandshakeLengthSpec) false w args)
      (Rows.fnHandshakeLengthSpec.post enc Tryz.prog Tryz.f4 false true false false) := by
  refine returnsInHanded_of_change_and (C := Tryz.checked) (X := fun w _ => laidMetH Tryz.prog laid3 w) (fun _ _ _ hh h => h.of_heap hh) own started (by kernel_rfl) Tryz.func4
    (ChangeSpec.witness_shaped (enc := enc) (C := Tryz.checked) (os := os) (X := fun w _ => laidMetH Tryz.prog laid3 w) false (World.doorLaid Tryz.prog 598 os) #[.agg #[.int .u8 0, .int .u32 0, .int .u16 0, .int .u32 0, .int .u32 0], .string ⟨#[]⟩] 8 rfl (World.shaped_of_RefB (by kernel_rfl) (by kernel_rfl)) (by kernel_rfl) (by kernel_rfl) (by kernel_rfl) (door_met os _)) ?_
  intro W base args ds gs before hval0 hW _ _ hL _
  have hval : ∀ (j : Nat) t v, Tryz.f4.params[j]? = some t → args[j]? = some v → Value.okWide Tryz.prog W .any base t v := hval0
  have hW' := hW
  obtain ⟨p, q, hA0, hV, rfl, hfz, hnd⟩ := hW
  have hA : DataW.TrodAll enc Tryz.prog W 0 (fun _ => true) true Tryz.f4.params.toList args.toList ds p := hA0
  rw [Tryz.params4] at hA hval
  obtain ⟨v0, v1, d0, d1, p0, p1, rfl, rfl, rfl, h0, h1⟩ := trodAll_two hA
  obtain ⟨rfl, rfl⟩ := trodVars_none hV
  obtain ⟨t, l, s, o, f, rfl, rfl, rfl, wt, wl, ws, wo, wf⟩ := open_head (hval 0 26 v0 rfl rfl) h0
  obtain ⟨c, rfl, rfl, rfl, hc⟩ := open_string Tryz.underlying9 (hval 1 9 v1 rfl rfl) h1
  obtain ⟨a, hE⟩ := mis_of_laid hL
  simp only [List.append_nil] at hW'
  have hl : 0 ≤ l ∧ l < 4294967296 := by
    have h : IntKind.u32.min ≤ l ∧ l ≤ IntKind.u32.max := by simpa [Lit.wf] using wl
    have e1 : IntKind.u32.min = 0 := rfl
    have e2 : IntKind.u32.max = 4294967295 := rfl
    omega
  have hf : 0 ≤ f ∧ f < 4294967296 := by
    have h : IntKind.u32.min ≤ f ∧ f ≤ IntKind.u32.max := by simpa [Lit.wf] using wf
    have e1 : IntKind.u32.min = 0 := rfl
    have e2 : IntKind.u32.max = 4294967295 := rfl
    omega
  have hs : 0 ≤ s ∧ s < 65536 := by
    have h : IntKind.u16.min ≤ s ∧ s ≤ IntKind.u16.max := by simpa [Lit.wf] using ws
    have e1 : IntKind.u16.min = 0 := rfl
    have e2 : IntKind.u16.max = 65535 := rfl
    omega
  refine (len_all t l s o f c 253 (some a) W hE hl.1 hl.2 hf.1 hf.2 hs.1 hs.2).mono fun e W' ⟨he, hw⟩ => ?_
  subst he
  refine ⟨_, rfl, _, _, _, [], [], [], hW', ?_, ?_, ?_, hw.frame _, fun h => by cases h⟩
  · exact trodAll_mk1 (shut_bool Tryz.underlying4 true)
  · exact trodAll_mk2 (shut_head wt wl ws wo wf) (shut_string Tryz.underlying9 hc)
  · rfl

theorem len_holds : Rows.FnHandshakeLengthSaid :=
  OpenClaim.holds_of_wide 4 Tryz.f4 rfl rfl rfl rfl rfl rfl rfl ⟨rfl, rfl, rfl, rfl, rfl⟩ rfl rfl rfl rfl rfl (by kernel_rfl) Tryz.func4 (by kernel_rfl)
    (of_decide_eq_true (by kernel_rfl)) (by unfold Func.isWrapper; first | (rw [if_pos (by decide +kernel)]; kernel_rfl) | (rw [if_neg (by decide +kernel)]; exact ⟨rfl, rfl⟩))
    (fun os started H enc _ => len_lifted os started H enc)

theorem length_card : Rows.FnHandshakeLengthCardSaid :=
  Claim7.holds_tied_plain_at .later [] [.sentinel, .sentinel, .sentinel] true (true, "166aeee40a4a9af767ea9f10860bcb80ae175c76832f3ab1f324bd84e6db9b12") true
    len_holds (fun _ h => by cases h) (by kernel_rfl) (fun _ h => by cases h) fnHandshakeLength_row_tie rfl ⟨rfl, rfl⟩ (by kernel_rfl) rfl
    (fun f fn hf hfn => by
      obtain rfl : f = 4 := Option.some.inj ((show Tryz.prog.funcNamed "pub-convoy/laws.FnHandshakeLength" = some 4 by kernel_rfl).symm.trans hf) |>.symm
      obtain rfl : fn = Tryz.f4 := (Option.some.inj (Tryz.func4.symm.trans hfn)).symm
      exact ⟨by kernel_rfl, fun j t ht => by
        rw [Tryz.params4] at ht
        have h3 : t = 26 ∨ t = 9 := by
          rcases j with _ | _ | j
          · exact .inl (by simpa using ht.symm)
          · exact .inr (by simpa using ht.symm)
          · simp at ht
        rcases h3 with rfl | rfl
        · exact (show Tryz.prog.wantsStandIn 26 = false by kernel_rfl)
        · exact (show Tryz.prog.wantsStandIn 9 = false by kernel_rfl)⟩)
    (by kernel_rfl)
end Go.Proofs.YtkagkopjhgnnlaaGreatDoor

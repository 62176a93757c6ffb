/- impl.HandshakeRead of a HelloVerifyRequest. -/
import Derived.Test.YtkagkopjhgnnlaaGreatDoorUnmHvr
import Derived.Test.YtkagkopjhgnnlaaGreatDoorMsgHvr
import Derived.Test.YtkagkopjhgnnlaaGreatDoorRead2
namespace Go.Proofs.YtkagkopjhgnnlaaGreatDoor
open Go.RowKit

/-- The message that is read. -/
abbrev mh (s ckv : ByteArray) : Array Value := m3 (sb s 12).toNat (sb s 13).toNat ckv
theorem rows3 {w w3 : World} {g : Nat} (d : Nat → UInt8) (M : Array Value) (hg : w.heap.size ≤ g) (h1 : w3.heap[g]? = some (.cells hz 26 (0, 0))) (h2 : w3.heap[g + 1]? = some (.cells mz 36 (0, 0))) (h3 : Below w.heap.size w w3) :
    ∃ W5 : World, Hid (W5 = w3.setRow g (hd5 d)) ∧ ∃ W6 : World, Hid (W6 = W5.setRow (g + 1) M) ∧ Hid (W5.heap[g + 1]? = some (.cells mz 36 (0, 0))) ∧
      Hid (W6.heap[g]? = some (.cells (hd5 d) 26 (0, 0))) ∧ Hid (W6.heap[g + 1]? = some (.cells M 36 (0, 0))) ∧ Hid (Below w.heap.size w W6) := by
  have a1 := (setRow_other w3 g (g + 1) (hd5 d) (by omega)).trans h2
  exact ⟨_, Lib.hid rfl, _, Lib.hid rfl, Lib.hid a1, Lib.hid ((setRow_other _ _ _ _ (by omega)).trans (setRow_heap _ _ _ _ _ _ h1)), Lib.hid (setRow_heap _ _ _ _ _ _ a1),
    Lib.hid (below_setRow (below_setRow h3 hg _) (Nat.le_succ_of_le hg) _)⟩
theorem ck_row (s ckv : ByteArray) (k : Nat) (h : (List.range k).map (fun j => sb s (15 + j)) = ckv.data.toList) : ck (sb s) k = rowb ckv.data.toList := by
  rw [← h]
  simp [List.map_map, Function.comp_def]
theorem ck_len (s ckv : ByteArray) (k : Nat) (h : (List.range k).map (fun j => sb s (15 + j)) = ckv.data.toList) : k = ckv.data.toList.length := by
  rw [← h, List.length_map, List.length_range]

set_option maxHeartbeats 0 in
set_option maxRecDepth 100000 in
theorem read_hvr (s ckv : ByteArray) (kx : Int) (k : Nat) (w : World) (hs : s.size = 15 + k) (hL : Lib.beNat [sb s 1, sb s 2, sb s 3] = s.size - 12) (hF : Lib.beNat [sb s 9, sb s 10, sb s 11] = s.size - 12) (hk : (sb s 0).toNat = 3)
    (hkk : (sb s 14).toNat = k) (hm : k ≤ 255) (hck : (List.range k).map (fun j => sb s (15 + j)) = ckv.data.toList) :
    Calls Tryz.prog 7 #[.string s, .int .i64 kx] w fun e w' => e = .returned (.tuple #[.agg (hd5 (sb s)), .agg (mh s ckv), .bool true]) ∧ Below w.heap.size w w' := by
  have hcv : ∀ W : World, (convert 9 30 (.string s)).run Tryz.prog W = .ok (.slice (some ⟨W.heap.size, 0, none⟩) s.size (grownCap W s.size 0 5)) (Lib.bytesWorld W 5 s) := fun W => Lib.run_convert_string_bytes W 9 30 5 s Tryz.underlying9 Tryz.underlying30 Tryz.underlying5
  have HS := Lib.hid hs
  have HL := Lib.hid hL
  have HF := Lib.hid hF
  have HK := Lib.hid hk
  have HKK := Lib.hid hkk
  have HM := Lib.hid hm
  have CR := Lib.hid (ck_row s ckv k hck)
  have CL := Lib.hid (ck_len s ckv k hck)
  clear hs hL hF hk hkk hm hck
  go_enter Tryz.func7, Tryz.ntmps7
  go_wp2_with fail
  have hs0 := hs_start (W3 w kx) s _ _ (W3_g w kx)
  rw [W3_size] at hs0
  refine (unm_hvr (w.heap.size + 1 + 1) (w.heap.size + 1 + 1 + 1) s.size k _ (sb s) _ _ _ _ _ _ _ _ _ HS.out (grownCap_ge _ _ _ _) hs0 HL.out HF.out HK.out HKK.out HM.out).mono ?_
  rintro e w1 ⟨rfl, q, z, hq0, hz0, H1, hq1, hz1⟩
  clear hs0 hcv hq0 hz0 HM
  have hh := (H1.chg.blk ((conv_chg _ s (fun _ => False)).blk (W3_h w kx) (fun h => h)) (fun h => by omega))
  have hm1 := (H1.chg.blk ((conv_chg _ s (fun _ => False)).blk (W3_m w kx) (fun h => h)) (fun h => by omega))
  have HB : Below w.heap.size w w1 := ((W3_below w kx).trans ((conv_chg (W3 w kx) s (fun _ => False)).to_below (by rw [W3_size]; omega) (fun _ h => h.elim))).trans (H1.chg.to_below (by rw [Lib.bytesWorld_size, W3_size]; omega) (fun i h => by omega))
  have HG := Lib.hid H1.blk
  clear H1
  have HH := Lib.hid hh
  have HM := Lib.hid hm1
  rw [CL.out] at hq1
  rw [CR.out] at hz1
  have HQ := Lib.hid hq1
  have HZ := Lib.hid hz1
  clear hh hm1 hq1 hz1
  have k0 := (bcell HG.out 0).trans rfl
  have k1 := (bcell HG.out 1).trans rfl
  have k2 := (bcell HG.out 2).trans rfl
  have k3 := (bcell HG.out 3).trans rfl
  have k4 := (bcell HG.out 4).trans rfl
  have k5 := (bcell HG.out 5).trans rfl
  go_wp2_with fail
  have HB1 := below_drw HB
  have hne : w.heap.size + 1 ≠ w.heap.size := by omega
  refine wp_region_any (by kernel_rfl) ?_
  change wpAny _ _ _ _ _ _ _ (World.drew _)
  refine wpAny_take (i := 0) (v := ?_) rfl (by kernel_rfl) (by kernel_rfl) (by kernel_rfl) (fun _ _ _ h => h) (Or.inl ⟨by rfl, ?_⟩) ?_
  rotate_left
  · intro wz
    go_simp
    all_goals with_reducible rfl
  refine wpAny_take (i := 3) (v := ?_) rfl (by kernel_rfl) (by kernel_rfl) (by kernel_rfl) (fun _ _ _ h => h) (Or.inl ⟨by rfl, ?_⟩) ?_
  rotate_left
  · intro wz
    go_simp
    all_goals with_reducible rfl
  refine wpAny_ready (rs := [1, 4]) (by kernel_rfl) (by simp) ?_
  refine AllReady.cons rfl (fun K hK => ?_) ?_
  · go_simp
    refine hK _ _ ?_
    clear hK K
    refine wpAny_ready (rs := [2, 4]) (by kernel_rfl) (by simp) ?_
    refine AllReady.cons rfl (fun K hK => ?_) ?_
    · go_simp
      go_wp2_with (first | (go_at_call 10; (refine (head_data _ _ _ _ _ _).mono ?_); rintro e w2 ⟨rfl, hb2⟩; have k5' := bcellv hb2 k5; have HH2 := Lib.hid (bblk hb2 HH.out); have Q2 := Lib.hid (bblk hb2 HQ.out); have Z2 := Lib.hid (bblk hb2 HZ.out); have HM2 := Lib.hid (bblk hb2 HM.out); have HB2 := HB1.trans (hb2.mono HB1.size)))
      refine wpAny_ready (rs := [4]) (by kernel_rfl) (by simp) ?_
      refine AllReady.cons rfl (fun K hK => ?_) ?_
      · go_simp
        refine hK _ _ ?_
        clear hK K
        refine wpAny_ready (rs := [5]) (by kernel_rfl) (by simp) ?_
        refine AllReady.cons rfl (fun K hK => ?_) ?_
        · go_simp
          go_wp2_with (first | (go_at_call 11; (refine (msg_hvr q z _ _ ckv.data.toList ckv _ Q2.out Z2.out rfl).mono ?_); rintro e w3 ⟨rfl, hb3⟩; have HH3 := Lib.hid (bblk hb3 HH2.out); have HM3 := Lib.hid (bblk hb3 HM2.out); have HB3 := HB2.trans (hb3.mono HB2.size)))
          obtain ⟨W5, HW5, W6, HW6, HM5, e1, e2, e3⟩ := rows3 (w3 := w3) (sb s) (mh s ckv) (Nat.le_refl w.heap.size) HH3.out HM3.out HB3
          refine wpAny_ready (rs := [6]) (by kernel_rfl) (by simp) ?_
          refine AllReady.cons rfl (fun K hK => ?_) ?_
          · refine step_store_row rfl 26 (.tmp 4) (.tmp 20) rfl w.heap.size (hd5 (sb s)) rfl rfl 26 hz HH3.out (by kernel_rfl) rfl (hd5_one _) ?_
            rw [← HW5.out]
            refine hK _ _ ?_
            clear hK K
            refine wpAny_ready (rs := [7]) (by kernel_rfl) (by simp) ?_
            refine AllReady.cons rfl (fun K hK => ?_) ?_
            · refine step_store_row rfl 36 (.tmp 5) (.tmp 23) rfl (w.heap.size + 1) (mh s ckv) rfl rfl 36 mz HM5.out (by kernel_rfl) rfl (m3_one _ _ _) ?_
              rw [← HW6.out]
              refine hK _ _ ?_
              clear hK K
              refine wpAny_take (i := 8) (v := ?_) rfl (by kernel_rfl) (by kernel_rfl) (by kernel_rfl) (fun _ _ _ h => h) (Or.inl ⟨by rfl, ?_⟩) ?_
              rotate_left
              · intro wz
                go_simp
                all_goals with_reducible rfl
              refine wpAny_done (by kernel_rfl) ?_ _
              go_wp2_with fail
              refine bodyPost_ret (results_cct rfl _ _ w.heap.size (w.heap.size + 1) 26 36 (hd5 (sb s)) (mh s ckv) (0, 0) (0, 0) _ _ rfl e1.out Tryz.underlying26 rfl (by kernel_rfl) rfl e2.out Tryz.underlying36 rfl (by kernel_rfl)) rfl ⟨rfl, e3.out⟩
            · exact AllReady.nil
          · exact AllReady.nil
        exact AllReady.nil
      exact AllReady.nil
    refine AllReady.cons rfl (fun K hK => ?_) ?_
    · go_simp
      refine hK _ _ ?_
      clear hK K
      refine wpAny_ready (rs := [2]) (by kernel_rfl) (by simp) ?_
      refine AllReady.cons rfl (fun K hK => ?_) ?_
      · go_simp
        go_wp2_with (first | (go_at_call 10; (refine (head_data _ _ _ _ _ _).mono ?_); rintro e w2 ⟨rfl, hb2⟩; have k5' := bcellv hb2 k5; have HH2 := Lib.hid (bblk hb2 HH.out); have Q2 := Lib.hid (bblk hb2 HQ.out); have Z2 := Lib.hid (bblk hb2 HZ.out); have HM2 := Lib.hid (bblk hb2 HM.out); have HB2 := HB1.trans (hb2.mono HB1.size)))
        refine wpAny_ready (rs := [5]) (by kernel_rfl) (by simp) ?_
        refine AllReady.cons rfl (fun K hK => ?_) ?_
        · go_simp
          go_wp2_with (first | (go_at_call 11; (refine (msg_hvr q z _ _ ckv.data.toList ckv _ Q2.out Z2.out rfl).mono ?_); rintro e w3 ⟨rfl, hb3⟩; have HH3 := Lib.hid (bblk hb3 HH2.out); have HM3 := Lib.hid (bblk hb3 HM2.out); have HB3 := HB2.trans (hb3.mono HB2.size)))
          obtain ⟨W5, HW5, W6, HW6, HM5, e1, e2, e3⟩ := rows3 (w3 := w3) (sb s) (mh s ckv) (Nat.le_refl w.heap.size) HH3.out HM3.out HB3
          refine wpAny_ready (rs := [6]) (by kernel_rfl) (by simp) ?_
          refine AllReady.cons rfl (fun K hK => ?_) ?_
          · refine step_store_row rfl 26 (.tmp 4) (.tmp 20) rfl w.heap.size (hd5 (sb s)) rfl rfl 26 hz HH3.out (by kernel_rfl) rfl (hd5_one _) ?_
            rw [← HW5.out]
            refine hK _ _ ?_
            clear hK K
            refine wpAny_ready (rs := [7]) (by kernel_rfl) (by simp) ?_
            refine AllReady.cons rfl (fun K hK => ?_) ?_
            · refine step_store_row rfl 36 (.tmp 5) (.tmp 23) rfl (w.heap.size + 1) (mh s ckv) rfl rfl 36 mz HM5.out (by kernel_rfl) rfl (m3_one _ _ _) ?_
              rw [← HW6.out]
              refine hK _ _ ?_
              clear hK K
              refine wpAny_take (i := 8) (v := ?_) rfl (by kernel_rfl) (by kernel_rfl) (by kernel_rfl) (fun _ _ _ h => h) (Or.inl ⟨by rfl, ?_⟩) ?_
              rotate_left
              · intro wz
                go_simp
                all_goals with_reducible rfl
              refine wpAny_done (by kernel_rfl) ?_ _
              go_wp2_with fail
              refine bodyPost_ret (results_cct rfl _ _ w.heap.size (w.heap.size + 1) 26 36 (hd5 (sb s)) (mh s ckv) (0, 0) (0, 0) _ _ rfl e1.out Tryz.underlying26 rfl (by kernel_rfl) rfl e2.out Tryz.underlying36 rfl (by kernel_rfl)) rfl ⟨rfl, e3.out⟩
            · exact AllReady.nil
          · exact AllReady.nil
        exact AllReady.nil
      exact AllReady.nil
    exact AllReady.nil
  refine AllReady.cons rfl (fun K hK => ?_) ?_
  · go_simp
    refine hK _ _ ?_
    clear hK K
    refine wpAny_ready (rs := [1]) (by kernel_rfl) (by simp) ?_
    refine AllReady.cons rfl (fun K hK => ?_) ?_
    · go_simp
      refine hK _ _ ?_
      clear hK K
      refine wpAny_ready (rs := [2]) (by kernel_rfl) (by simp) ?_
      refine AllReady.cons rfl (fun K hK => ?_) ?_
      · go_simp
        go_wp2_with (first | (go_at_call 10; (refine (head_data _ _ _ _ _ _).mono ?_); rintro e w2 ⟨rfl, hb2⟩; have k5' := bcellv hb2 k5; have HH2 := Lib.hid (bblk hb2 HH.out); have Q2 := Lib.hid (bblk hb2 HQ.out); have Z2 := Lib.hid (bblk hb2 HZ.out); have HM2 := Lib.hid (bblk hb2 HM.out); have HB2 := HB1.trans (hb2.mono HB1.size)))
        refine wpAny_ready (rs := [5]) (by kernel_rfl) (by simp) ?_
        refine AllReady.cons rfl (fun K hK => ?_) ?_
        · go_simp
          go_wp2_with (first | (go_at_call 11; (refine (msg_hvr q z _ _ ckv.data.toList ckv _ Q2.out Z2.out rfl).mono ?_); rintro e w3 ⟨rfl, hb3⟩; have HH3 := Lib.hid (bblk hb3 HH2.out); have HM3 := Lib.hid (bblk hb3 HM2.out); have HB3 := HB2.trans (hb3.mono HB2.size)))
          obtain ⟨W5, HW5, W6, HW6, HM5, e1, e2, e3⟩ := rows3 (w3 := w3) (sb s) (mh s ckv) (Nat.le_refl w.heap.size) HH3.out HM3.out HB3
          refine wpAny_ready (rs := [6]) (by kernel_rfl) (by simp) ?_
          refine AllReady.cons rfl (fun K hK => ?_) ?_
          · refine step_store_row rfl 26 (.tmp 4) (.tmp 20) rfl w.heap.size (hd5 (sb s)) rfl rfl 26 hz HH3.out (by kernel_rfl) rfl (hd5_one _) ?_
            rw [← HW5.out]
            refine hK _ _ ?_
            clear hK K
            refine wpAny_ready (rs := [7]) (by kernel_rfl) (by simp) ?_
            refine AllReady.cons rfl (fun K hK => ?_) ?_
            · refine step_store_row rfl 36 (.tmp 5) (.tmp 23) rfl (w.heap.size + 1) (mh s ckv) rfl rfl 36 mz HM5.out (by kernel_rfl) rfl (m3_one _ _ _) ?_
              rw [← HW6.out]
              refine hK _ _ ?_
              clear hK K
              refine wpAny_take (i := 8) (v := ?_) rfl (by kernel_rfl) (by kernel_rfl) (by kernel_rfl) (fun _ _ _ h => h) (Or.inl ⟨by rfl, ?_⟩) ?_
              rotate_left
              · intro wz
                go_simp
                all_goals with_reducible rfl
              refine wpAny_done (by kernel_rfl) ?_ _
              go_wp2_with fail
              refine bodyPost_ret (results_cct rfl _ _ w.heap.size (w.heap.size + 1) 26 36 (hd5 (sb s)) (mh s ckv) (0, 0) (0, 0) _ _ rfl e1.out Tryz.underlying26 rfl (by kernel_rfl) rfl e2.out Tryz.underlying36 rfl (by kernel_rfl)) rfl ⟨rfl, e3.out⟩
            · exact AllReady.nil
          · exact AllReady.nil
        exact AllReady.nil
      exact AllReady.nil
    exact AllReady.nil
  exact AllReady.nil
end Go.Proofs.YtkagkopjhgnnlaaGreatDoor

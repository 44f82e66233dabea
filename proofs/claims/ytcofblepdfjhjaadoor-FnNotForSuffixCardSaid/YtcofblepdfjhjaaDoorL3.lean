/- The law FnNotForSuffix: its walk. -/
import Derived.Test.YtcofblepdfjhjaaDoorLawKit
import Derived.Test.YtcofblepdfjhjaaDoorSufAll
namespace Go.Proofs.YtcofblepdfjhjaaDoor
open Go.RowKit
set_option maxRecDepth 100000 in
set_option maxHeartbeats 6400000 in
theorem FnNotForSuffix_any (v : Value) (sufs : List ByteArray) (sa ha pa sb hb pb : ByteArray) (c : PCookie) (w : World) (hB : Base w) (hS : StrsAt w w.heap.size v sufs) (hl : sufs.length ≤ 9223372036854775807) (hsz : ∀ x ∈ sufs, x.size ≤ 9223372036854775807)
    (h1 : sa.size ≤ 9223372036854775807) (h2 : ha.size ≤ 9223372036854775807) (h3 : pa.size ≤ 9223372036854775807)
    (g1 : sb.size ≤ 9223372036854775807) (g2 : hb.size ≤ 9223372036854775807) (g3 : pb.size ≤ 9223372036854775807) (hc : CkLen c) (hca : I64 c.maxAge) (hce : I64 c.expires) :
    Calls Tryd.prog 5 #[v, .agg #[.string sa, .string ha, .string pa], .agg #[.string sb, .string hb, .string pb], .agg (ckCells c).toArray] w fun r w' => r = .returned (.bool true) ∧ Below w.heap.size w w' := by
  have HF4 := fun W => zzFits4_any sa ha pa W h1 h2 h3
  have HG4 := fun W => zzFits4_any sb hb pb W g1 g2 g3
  have HF6 := fun W => zzFits6_any c W hc
  unfold ckVal at HF6
  obtain ⟨W, hW, hBX⟩ : ∃ W, ((w.alloc (.cells #[.string sa, .string ha, .string pa] 24)).alloc (.cells #[.string sb, .string hb, .string pb] 24)).alloc (.cells #[.string c.name, .string c.value, .string c.domain, .string c.path, .int .i64 c.maxAge, .int .i64 c.expires, .bool c.secure] 26) = W ∧ Boxes3 w W sa ha pa sb hb pb c :=
    ⟨_, rfl, boxes3 w sa ha pa sb hb pb c⟩
  obtain ⟨hal, hA, hD, hC, hL, hszW⟩ := hBX
  have hS1 : StrsAt W w.heap.size v sufs := hS.below hal (Nat.le_refl _)
  have HF1 := zzFits1_any v sufs w.heap.size W hS1 hl hsz
  unfold ckCells
  obtain ⟨a0, a1, a2⟩ := row3 hA
  obtain ⟨b0, b1, b2⟩ := row3 hD
  obtain ⟨y0, y1, y2, y3, y4, y5, y6⟩ := row7 hC
  go_enter Tryd.func5, Tryd.ntmps5
  go_upto_region 1 with (fail)
  try rw [hW]
  clear hW
  go_cut [27] (fun v27 wx => v27 = .bool (!(fits1 sufs && fits4 sa ha pa && fits4 sb hb pb && fits6 c)) ∧ Below W.heap.size W wx)
  case first =>
    as_aux_lemma =>
    cases hf1 : fits1 sufs
    · have H1 := Lib.hid hf1
      clear hf1
      go_wp2_with fail
      refine HF1.mono ?_
      rintro r w1 ⟨rfl, rfl⟩
      rw [H1.out]
      go_wp2
      go_meet
      exact ⟨by rw [H1.out]; rfl, Below.refl _ _⟩
    · have H1 := Lib.hid hf1
      clear hf1
      cases h4 : fits4 sa ha pa
      · have H4 := Lib.hid h4
        clear h4
        go_wp2_with fail
        refine HF1.mono ?_
        rintro r w1 ⟨rfl, rfl⟩
        rw [H1.out]
        go_wp2_with fail
        refine (HF4 _).mono ?_
        rintro r w1 ⟨rfl, hb1⟩
        rw [H4.out]
        go_wp2
        go_meet
        exact ⟨by rw [H1.out, H4.out]; rfl, hb1⟩
      · have H4 := Lib.hid h4
        clear h4
        cases h5 : fits4 sb hb pb
        · have H5 := Lib.hid h5
          clear h5
          go_wp2_with fail
          refine HF1.mono ?_
          rintro r w1 ⟨rfl, rfl⟩
          rw [H1.out]
          go_wp2_with fail
          refine (HF4 _).mono ?_
          rintro r w1 ⟨rfl, hb1⟩
          rw [H4.out]
          obtain ⟨b0, b1, b2⟩ := row3 (hD.below hb1 (by omega))
          go_wp2_with fail
          refine (HG4 _).mono ?_
          rintro r w2 ⟨rfl, hb2⟩
          rw [H5.out]
          go_wp2
          go_meet
          exact ⟨by rw [H1.out, H4.out, H5.out]; rfl, hb1.trans (hb2.mono hb1.size)⟩
        · have H5 := Lib.hid h5
          clear h5
          go_wp2_with fail
          refine HF1.mono ?_
          rintro r w1 ⟨rfl, rfl⟩
          rw [H1.out]
          go_wp2_with fail
          refine (HF4 _).mono ?_
          rintro r w1 ⟨rfl, hb1⟩
          rw [H4.out]
          obtain ⟨b0, b1, b2⟩ := row3 (hD.below hb1 (by omega))
          have hC1 := hC.below hb1 (by omega)
          have hs1 := hb1.size
          go_wp2_with fail
          refine (HG4 _).mono ?_
          rintro r w2 ⟨rfl, hb2⟩
          rw [H5.out]
          obtain ⟨y0, y1, y2, y3, y4, y5, y6⟩ := row7 (hC1.below hb2 (by omega))
          go_wp2_with fail
          refine (HF6 _).mono ?_
          rintro r w3 ⟨rfl, hb3⟩
          go_wp2
          go_meet
          exact ⟨by rw [H1.out, H4.out, H5.out]; rfl, (hb1.trans (hb2.mono hb1.size)).trans (hb3.mono (Nat.le_trans hb1.size hb2.size))⟩
  case rest =>
    obtain ⟨rfl, hb1⟩ := hcut
    obtain ⟨fb, hfb⟩ : ∃ fb, (fits1 sufs && fits4 sa ha pa && fits4 sb hb pb && fits6 c) = fb := ⟨_, rfl⟩
    rw [hfb]
    have HFB := Lib.hid hfb
    have hs1 := hb1.size
    clear hfb HF4 HG4 HF6 HF1 a0 a1 a2 b0 b1 b2 y0 y1 y2 y3 y4 y5 y6
    have hbw := hal.trans (hb1.mono (by omega))
    generalize wc = W2 at *
    cases fb
    · as_aux_lemma =>
      go_wp2
      go_returns
      exact ⟨rfl, hbw⟩
    · have hA2 := hA.below hb1 (by omega)
      have hD2 := hD.below hb1 (by omega)
      have hC2 := hC.below hb1 (by omega)
      have hS2 := hS1.below hb1 (by omega)
      clear hA hD hC hL hb1 hal hS1 hS
      have hlt : w.heap.size + 2 < W2.heap.size := by omega
      have hltA : w.heap.size < W2.heap.size := by omega
      have hltD : w.heap.size + 1 < W2.heap.size := by omega
      go_upto_region 3 with (fail)
      go_cut [9] (fun v9 wx => ∃ sl, v9 = .slice (some ⟨sl, 0, none⟩) 2 2 ∧ StepsAt wx wx.heap.size (.slice (some ⟨sl, 0, none⟩) 2 2) (saSteps 2 3 sa ha pa httpsB hb pb c) ∧ Below W2.heap.size W2 wx)
      case first =>
        have HSET := fun W => set_any 2 sa ha pa c W
        have HWEB := fun W => web_any sb hb pb W
        have HASK := fun W => ask_any 3 httpsB hb pb W
        unfold SetRes setVal at HSET
        unfold ckCells at HSET
        unfold askVal at HASK
        have BB := Below.refl W2.heap.size W2
        unfold ckCells at hC2
        obtain ⟨a0, a1, a2⟩ := row3 hA2
        obtain ⟨b0, b1, b2⟩ := row3 hD2
        obtain ⟨y0, y1, y2, y3, y4, y5, y6⟩ := row7 hC2
        simp only [Nat.zero_add] at a1 a2 b1 b2 y1 y2 y3 y4 y5 y6
        go_region_held3 (fun w' => w'.cell? ⟨w.heap.size, 0, none⟩ = some (.string sa) ∧ w'.cell? ⟨w.heap.size, 1, none⟩ = some (.string ha) ∧ w'.cell? ⟨w.heap.size, 2, none⟩ = some (.string pa) ∧
            w'.cell? ⟨w.heap.size + 1, 0, none⟩ = some (.string sb) ∧ w'.cell? ⟨w.heap.size + 1, 1, none⟩ = some (.string hb) ∧ w'.cell? ⟨w.heap.size + 1, 2, none⟩ = some (.string pb) ∧
            w'.cell? ⟨w.heap.size + 2, 0, none⟩ = some (.string c.name) ∧ w'.cell? ⟨w.heap.size + 2, 1, none⟩ = some (.string c.value) ∧ w'.cell? ⟨w.heap.size + 2, 2, none⟩ = some (.string c.domain) ∧ w'.cell? ⟨w.heap.size + 2, 3, none⟩ = some (.string c.path) ∧
            w'.cell? ⟨w.heap.size + 2, 4, none⟩ = some (.int .i64 c.maxAge) ∧ w'.cell? ⟨w.heap.size + 2, 5, none⟩ = some (.int .i64 c.expires) ∧ w'.cell? ⟨w.heap.size + 2, 6, none⟩ = some (.bool c.secure)) (go_keep)
          (first
            | (go_at_call 16; refine (HSET _).mono ?_; rintro r w2 ⟨k1, rfl, hb1, hb2, hb3, hb4⟩; have BB := below_step BB hb4 rfl rfl rfl rfl; obtain ⟨a0, a1, a2⟩ := row3 (hA2.below BB hltA); obtain ⟨b0, b1, b2⟩ := row3 (hD2.below BB hltD); obtain ⟨y0, y1, y2, y3, y4, y5, y6⟩ := row7 (hC2.below BB hlt); have R1 := And.intro hb3 hb2)
            | (go_at_call 18; refine (HWEB _).mono ?_; rintro r w2 ⟨rfl, hb4⟩; have BB := below_step BB hb4 rfl rfl rfl rfl; obtain ⟨a0, a1, a2⟩ := row3 (hA2.below BB hltA); obtain ⟨b0, b1, b2⟩ := row3 (hD2.below BB hltD); obtain ⟨y0, y1, y2, y3, y4, y5, y6⟩ := row7 (hC2.below BB hlt); try have R1 := row_step R1 hb4 rfl)
            | (go_at_call 17; refine (HASK _).mono ?_; rintro r w2 ⟨rfl, hb4⟩; have BB := below_step BB hb4 rfl rfl rfl rfl; obtain ⟨a0, a1, a2⟩ := row3 (hA2.below BB hltA); obtain ⟨b0, b1, b2⟩ := row3 (hD2.below BB hltD); obtain ⟨y0, y1, y2, y3, y4, y5, y6⟩ := row7 (hC2.below BB hlt); try have R1 := row_step R1 hb4 rfl))
        all_goals
          go_wp2
          go_meet
          refine ⟨_, rfl, ?_, ?_⟩
          · exact sa_args R1 rfl
          · exact below_step (Below.alloc BB BB.size _) (Below.refl _ _) rfl rfl rfl rfl
      case rest =>
        obtain ⟨sl, rfl, hst, hb3⟩ := hcut
        generalize wc = W3 at *
        have hs3 := hb3.size
        have hA3 := hA2.below hb3 hltA
        have hD3 := hD2.below hb3 hltD
        have hC3 := hC2.below hb3 hlt
        have hS3 := hS2.below hb3 (by omega)
        have hbw3 := hbw.trans (hb3.mono (by omega))
        have hf : ((fits1 sufs = true ∧ fits4 sa ha pa = true) ∧ fits4 sb hb pb = true) ∧ fits6 c = true := by have := HFB.out; simpa using this
        have hfit := sa_fit (t1 := 2) (t2 := 3) hf.1.1.2 (fits4_web hf.1.2).1 hf.2 ⟨hca, hce⟩ ⟨by unfold I64; omega, by unfold I64; omega⟩
        have hsa := (fits4_use hf.1.1.2).2.1
        have hsb := (fits4_use hf.1.2).2.1
        have hsd := (fits6_use hf.2).2.2.1
        have hsl := fits1_use hf.1.1.1
        have HVAL := fun X (bb : Below W3.heap.size W3 X) => Valid_any true v (.slice (some ⟨sl, 0, none⟩) 2 2) sufs (saSteps 2 3 sa ha pa httpsB hb pb c) X.heap.size X ((hS3.below bb (by omega)).up (by have := bb.size; omega)) ((hst.below bb (Nat.le_refl _)).up bb.size) (Nat.le_refl _) hsl.1 hsl.2 (by simp [saSteps]) hfit
        clear hA2 hC2 hD2 hb3 HFB hf hS2
        have HFIT := Lib.hid hfit
        clear hfit
        obtain ⟨vb, hvb⟩ : ∃ vb, validB true sufs (saSteps 2 3 sa ha pa httpsB hb pb c) = vb := ⟨_, rfl⟩
        rw [hvb] at HVAL
        have HVB := Lib.hid hvb
        clear hvb
        obtain ⟨qe, hqe⟩ : ∃ q, decide (hostB (lst ha) = hostB (lst hb)) = q := ⟨_, rfl⟩
        have fh : ((str (hostB (lst ha))).toList == (str (hostB (lst hb))).toList) = qe := by rw [beq_lst, lst_str, lst_str, hqe]
        obtain ⟨si, hsi⟩ : ∃ q, isSufB sufs c.domain = q := ⟨_, rfl⟩
        have HQE := Lib.hid hqe
        have HSI := Lib.hid hsi
        clear hqe
        go_upto_region 4 with (fail)
        go_cut [57] (fun v57 wx => ∃ q, v57 = .bool q ∧ Below W3.heap.size W3 wx ∧ (q = false → vb = true ∧ qe = false ∧ si = true))
        case first =>
          have HIS := fun X (bb : Below W3.heap.size W3 X) => IsSuffix_any v sufs c.domain X ((hS3.below bb (by omega)).up (by have := bb.size; omega)) hsl.1 hsl.2 hsd
          rw [hsi] at HIS
          clear hsi HSI HQE HVB
          obtain ⟨a0, a1, a2⟩ := row3 hA3
          obtain ⟨b0, b1, b2⟩ := row3 hD3
          have y2 : W3.cell? ⟨w.heap.size + 2, 2, none⟩ = some (.string c.domain) := by simpa using hC3.at 2 _ rfl
          simp only [Nat.zero_add] at a1 a2 b1 b2
          have lA : w.heap.size < W3.heap.size := by omega
          have lD : w.heap.size + 1 < W3.heap.size := by omega
          have lC : w.heap.size + 2 < W3.heap.size := by omega
          have a0 := grew_cell a0 lA
          have a1 := grew_cell a1 lA
          have a2 := grew_cell a2 lA
          have b0 := grew_cell b0 lD
          have b1 := grew_cell b1 lD
          have b2 := grew_cell b2 lD
          have y2 := grew_cell y2 lC
          clear hC3
          generalize c.domain = dm at *
          cases vb
          · refine wp_region_grew (W := W3) (Below.refl _ _) (by kernel_rfl) (by kernel_rfl) ?_
            repeat (quiet_step ((first | (go_at_call 19; exact grew_of (HVAL _ (Grew.h _))) | (go_at_call 22; exact grew_of (Host_any _ _ _ _ (by first | exact hsa | exact hsb))) | (go_at_call 23; exact grew_of (HIS _ (Grew.h _))))))
            refine wpQuiet_nil ?_
            intro _ hw'
            obtain ⟨pq, hw''⟩ := hw'
            subst hw''
            go_wp2
            go_meet
            exact ⟨true, rfl, pq.h, fun h => by cases h⟩
          · cases qe
            · by_cases hd0 : dm = ⟨#[]⟩
              · subst hd0
                refine wp_region_grew (W := W3) (Below.refl _ _) (by kernel_rfl) (by kernel_rfl) ?_
                repeat (quiet_step ((first | (go_at_call 19; exact grew_of (HVAL _ (Grew.h _))) | (go_at_call 22; exact grew_of (Host_any _ _ _ _ (by first | exact hsa | exact hsb))) | (go_at_call 23; exact grew_of (HIS _ (Grew.h _))))))
                refine wpQuiet_nil ?_
                intro _ hw'
                obtain ⟨pq, hw''⟩ := hw'
                subst hw''
                go_wp2
                go_meet
                exact ⟨true, rfl, pq.h, fun h => by cases h⟩
              · have fd : (dm.toList == ([] : List UInt8)) = false := by rw [toList_lst, beq_eq_false_iff_ne]; exact fun e => hd0 (by rw [← str_lst dm, e]; rfl)
                clear hd0
                cases si
                · refine wp_region_grew (W := W3) (Below.refl _ _) (by kernel_rfl) (by kernel_rfl) ?_
                  repeat (quiet_step ((first | (go_at_call 19; exact grew_of (HVAL _ (Grew.h _))) | (go_at_call 22; exact grew_of (Host_any _ _ _ _ (by first | exact hsa | exact hsb))) | (go_at_call 23; exact grew_of (HIS _ (Grew.h _))))))
                  refine wpQuiet_nil ?_
                  intro _ hw'
                  obtain ⟨pq, hw''⟩ := hw'
                  subst hw''
                  go_wp2
                  go_meet
                  exact ⟨true, rfl, pq.h, fun h => by cases h⟩
                · refine wp_region_grew (W := W3) (Below.refl _ _) (by kernel_rfl) (by kernel_rfl) ?_
                  repeat (quiet_step ((first | (go_at_call 19; exact grew_of (HVAL _ (Grew.h _))) | (go_at_call 22; exact grew_of (Host_any _ _ _ _ (by first | exact hsa | exact hsb))) | (go_at_call 23; exact grew_of (HIS _ (Grew.h _))))))
                  refine wpQuiet_nil ?_
                  intro _ hw'
                  obtain ⟨pq, hw''⟩ := hw'
                  subst hw''
                  go_wp2
                  go_meet
                  exact ⟨false, rfl, pq.h, fun _ => by simp⟩
            · refine wp_region_grew (W := W3) (Below.refl _ _) (by kernel_rfl) (by kernel_rfl) ?_
              repeat (quiet_step ((first | (go_at_call 19; exact grew_of (HVAL _ (Grew.h _))) | (go_at_call 22; exact grew_of (Host_any _ _ _ _ (by first | exact hsa | exact hsb))) | (go_at_call 23; exact grew_of (HIS _ (Grew.h _))))))
              refine wpQuiet_nil ?_
              intro _ hw'
              obtain ⟨pq, hw''⟩ := hw'
              subst hw''
              go_wp2
              go_meet
              exact ⟨true, rfl, pq.h, fun h => by cases h⟩
        case rest =>
          obtain ⟨q, rfl, hb4, hq⟩ := hcut
          generalize wc = W4 at *
          have hs4 := hb4.size
          have hbw4 := hbw3.trans (hb4.mono (by omega))
          have hst4 := hst.below hb4 (Nat.le_refl _)
          have hS4 := hS3.below hb4 (by omega)
          clear HVAL hA3 hD3 hC3 hst hS3 hb4 fh
          cases q
          · obtain ⟨rfl, rfl, rfl⟩ := hq rfl
            have HL := last_any true v (.slice (some ⟨sl, 0, none⟩) 2 2) sufs (saSteps 2 3 sa ha pa httpsB hb pb c) W4 (run_args (hS4.up (by omega)) (hst4.up hs4) hsl HVB.out HFIT.out) (hB.below hbw4)
            have hne : ∀ s ∈ sufs, s ≠ ⟨#[]⟩ := fun s hs => sufOK_ne ((valid_good HVB.out HFIT.out).2.2.1 s hs)
            have hdiff : hostB (lst ha) ≠ hostB (lst hb) := of_decide_eq_false HQE.out
            have HLAW := Lib.hid (fun (o : List (List Ent)) h => law_suffix (sufs := sufs) (sa := sa) (ha := ha) (pa := pa) (hb := hb) (pb := pb) (c := c) (o := o) hdiff (fun p hp => suf_alone hne HSI.out hp) h)
            clear hst4 hS4 hne hdiff hq hsi
            go_wp2_with fail
            refine HL.mono ?_
            rintro r w6 ⟨u, o, rfl, hrel, hp, hb6⟩
            have ho := HLAW.out o hrel
            subst ho
            obtain ⟨ao, b, off, cap, rfl, _, _⟩ := hp
            have hn : ((pairsOf [[]]).getLastD []).length = 0 := rfl
            rw [hn]
            have hbw6 := hbw4.trans (hb6.mono (by omega))
            have HAL := alive_any w6 (hB.below hbw6)
            clear hrel hn HL
            go_wp2_with fail
            refine HAL.mono ?_
            rintro r w7 ⟨rfl, hb7⟩
            go_wp2
            go_returns
            exact ⟨rfl, hbw6.trans (hb7.mono hbw6.size)⟩
          · go_wp2
            go_returns
            exact ⟨rfl, hbw4⟩
end Go.Proofs.YtcofblepdfjhjaaDoor

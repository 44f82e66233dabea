/- The law FnOwnHost: its walk. -/
import Derived.Test.YtcofblepdfjhjaaDoorLawKit
namespace Go.Proofs.YtcofblepdfjhjaaDoor
open Go.RowKit
def ownCk (c : PCookie) : PCookie := { c with domain := ⟨#[]⟩, path := ⟨#[47]⟩, maxAge := 0, expires := 0 }
set_option maxRecDepth 100000 in
set_option maxHeartbeats 6400000 in
theorem FnOwnHost_any (sa ha pa sb hb pb : ByteArray) (c : PCookie) (w : World) (hB : Base w) (h1 : sa.size ≤ 9223372036854775807) (h2 : ha.size ≤ 9223372036854775807) (h3 : pa.size ≤ 9223372036854775807)
    (g1 : sb.size ≤ 9223372036854775807) (g2 : hb.size ≤ 9223372036854775807) (g3 : pb.size ≤ 9223372036854775807) (hc : CkLen c) :
    Calls Tryd.prog 6 #[.agg #[.string sa, .string ha, .string pa], .agg #[.string sb, .string hb, .string pb], .agg (ckCells c).toArray] w fun r w' => r = .returned (.bool true) ∧ Below w.heap.size w w' := by
  have HF4 := fun W => zzFits4_any sa ha pa W h1 h2 h3
  have HG4 := fun W => zzFits4_any sb hb pb W g1 g2 g3
  have HF6 := fun W => zzFits6_any c W hc
  unfold ckVal at HF6
  obtain ⟨W, hW, hBX⟩ : ∃ W, ((w.alloc (.cells #[.string sa, .string ha, .string pa] 24)).alloc (.cells #[.string sb, .string hb, .string pb] 24)).alloc (.cells #[.string c.name, .string c.value, .string c.domain, .string c.path, .int .i64 c.maxAge, .int .i64 c.expires, .bool c.secure] 26) = W ∧ Boxes3 w W sa ha pa sb hb pb c :=
    ⟨_, rfl, boxes3 w sa ha pa sb hb pb c⟩
  obtain ⟨hal, hA, hD, hC, hL, hsz⟩ := hBX
  unfold ckCells
  obtain ⟨a0, a1, a2⟩ := row3 hA
  obtain ⟨b0, b1, b2⟩ := row3 hD
  obtain ⟨y0, y1, y2, y3, y4, y5, y6⟩ := row7 hC
  go_enter Tryd.func6, Tryd.ntmps6
  go_upto_region 1 with (fail)
  try rw [hW]
  clear hW
  go_cut [20] (fun v20 wx => v20 = .bool (!(fits4 sa ha pa && fits4 sb hb pb && fits6 c)) ∧ Below W.heap.size W wx)
  case first =>
    as_aux_lemma =>
    cases h4 : fits4 sa ha pa
    · have H4 := Lib.hid h4
      clear h4
      go_wp2_with fail
      refine (HF4 _).mono ?_
      rintro r w1 ⟨rfl, hb1⟩
      rw [H4.out]
      go_wp2
      go_meet
      exact ⟨by rw [H4.out]; rfl, hb1⟩
    · have H4 := Lib.hid h4
      clear h4
      cases h5 : fits4 sb hb pb
      · have H5 := Lib.hid h5
        clear h5
        go_wp2_with fail
        refine (HF4 _).mono ?_
        rintro r w1 ⟨rfl, hb1⟩
        rw [H4.out]
        obtain ⟨b0, b1, b2⟩ := row3 (hD.below hb1 (by omega))
        go_wp2_with fail
        refine (HG4 _).mono ?_
        rintro r w2 ⟨rfl, hb2⟩
        rw [H5.out]
        go_wp2
        go_meet
        exact ⟨by rw [H4.out, H5.out]; rfl, hb1.trans (hb2.mono hb1.size)⟩
      · have H5 := Lib.hid h5
        clear h5
        go_wp2_with fail
        refine (HF4 _).mono ?_
        rintro r w1 ⟨rfl, hb1⟩
        rw [H4.out]
        obtain ⟨b0, b1, b2⟩ := row3 (hD.below hb1 (by omega))
        have hC1 := hC.below hb1 (by omega)
        have hs1 := hb1.size
        go_wp2_with fail
        refine (HG4 _).mono ?_
        rintro r w2 ⟨rfl, hb2⟩
        rw [H5.out]
        obtain ⟨y0, y1, y2, y3, y4, y5, y6⟩ := row7 (hC1.below hb2 (by omega))
        go_wp2_with fail
        refine (HF6 _).mono ?_
        rintro r w3 ⟨rfl, hb3⟩
        go_wp2
        go_meet
        exact ⟨by rw [H4.out, H5.out]; rfl, (hb1.trans (hb2.mono hb1.size)).trans (hb3.mono (Nat.le_trans hb1.size hb2.size))⟩
  case rest =>
    obtain ⟨rfl, hb1⟩ := hcut
    obtain ⟨fb, hfb⟩ : ∃ fb, (fits4 sa ha pa && fits4 sb hb pb && fits6 c) = fb := ⟨_, rfl⟩
    rw [hfb]
    have HFB := Lib.hid hfb
    have hs1 := hb1.size
    clear hfb HF4 HG4 HF6 a0 a1 a2 b0 b1 b2 y0 y1 y2 y3 y4 y5 y6
    have hbw := hal.trans (hb1.mono (by omega))
    generalize wc = W1 at *
    cases fb
    · as_aux_lemma =>
      go_wp2
      go_returns
      exact ⟨rfl, hbw⟩
    · have hA1 := hA.below hb1 (by omega)
      have hD1 := hD.below hb1 (by omega)
      have hC1 := hC.below hb1 (by omega)
      have hL1 := hL.below hb1 (by omega)
      have y2 : W1.cell? ⟨w.heap.size + 2, 2, none⟩ = some (.string c.domain) := by simpa using hC1.at 2 _ rfl
      have y3 : W1.cell? ⟨w.heap.size + 2, 3, none⟩ = some (.string c.path) := by simpa using hC1.at 3 _ rfl
      have y4 : W1.cell? ⟨w.heap.size + 2, 4, none⟩ = some (.int .i64 c.maxAge) := by simpa using hC1.at 4 _ rfl
      have y5 : W1.cell? ⟨w.heap.size + 2, 5, none⟩ = some (.int .i64 c.expires) := by simpa using hC1.at 5 _ rfl
      have q2 := hL1 2
      have q3 := hL1 3
      have q4 := hL1 4
      have q5 := hL1 5
      clear hA hD hC hL hb1 hal
      go_upto_region 4 with (fail)
      obtain ⟨W2, hW2⟩ : ∃ W2, ((((W1.setCell ⟨w.heap.size + 2, 2, none⟩ (.string ⟨#[]⟩)).setCell ⟨w.heap.size + 2, 3, none⟩ (.string ⟨#[47]⟩)).setCell ⟨w.heap.size + 2, 4, none⟩ (.int .i64 0)).setCell ⟨w.heap.size + 2, 5, none⟩ (.int .i64 0)) = W2 := ⟨_, rfl⟩
      have hch : Chg (fun b => b = w.heap.size + 2) W1 W2 := by
        rw [← hW2]
        exact ((((Chg.refl (fun b => b = w.heap.size + 2) W1).setCell (p := ⟨w.heap.size + 2, 2, none⟩) (Or.inl rfl) _).setCell (p := ⟨w.heap.size + 2, 3, none⟩) (Or.inl rfl) _).setCell (p := ⟨w.heap.size + 2, 4, none⟩) (Or.inl rfl) _).setCell (p := ⟨w.heap.size + 2, 5, none⟩) (Or.inl rfl) _
      have hA2 : RowAt W2 w.heap.size 0 [Value.string sa, .string ha, .string pa] := hA1.chg hch (by omega) (by omega)
      have hD2 : RowAt W2 (w.heap.size + 1) 0 [Value.string sb, .string hb, .string pb] := hD1.chg hch (by omega) (by omega)
      have hC2 : RowAt W2 (w.heap.size + 2) 0 (ckCells (ownCk c)) := by
        rw [← hW2]
        exact (((hC1.set 2 (.string ⟨#[]⟩)).set 3 (.string ⟨#[47]⟩)).set 4 (.int .i64 0)).set 5 (.int .i64 0)
      have hb2 : Below w.heap.size w W2 := by
        rw [← hW2]
        exact Below.setCell (p := ⟨w.heap.size + 2, 5, none⟩) (Below.setCell (p := ⟨w.heap.size + 2, 4, none⟩) (Below.setCell (p := ⟨w.heap.size + 2, 3, none⟩) (Below.setCell (p := ⟨w.heap.size + 2, 2, none⟩) hbw (Nat.le_add_right _ _) _) (Nat.le_add_right _ _) _) (Nat.le_add_right _ _) _) (Nat.le_add_right _ _) _
      have hs2 : W2.heap.size = W1.heap.size := by rw [← hW2]; simp
      rw [hW2]
      clear hW2 hch y2 y3 y4 y5 q2 q3 q4 q5 hA1 hD1 hC1 hL1 hbw
      have hlt : w.heap.size + 2 < W2.heap.size := by omega
      have hltA : w.heap.size < W2.heap.size := by omega
      have hltD : w.heap.size + 1 < W2.heap.size := by omega
      go_cut [7] (fun v7 wx => ∃ sl, v7 = .slice (some ⟨sl, 0, none⟩) 2 2 ∧ StepsAt wx wx.heap.size (.slice (some ⟨sl, 0, none⟩) 2 2) (saSteps 2 3 sa ha pa httpsB hb pb (ownCk c)) ∧ Below W2.heap.size W2 wx)
      case first =>
        have HSET := fun W => set_any 2 sa ha pa (ownCk c) W
        have HWEB := fun W => web_any sb hb pb W
        have HASK := fun W => ask_any 3 httpsB hb pb W
        unfold SetRes setVal at HSET
        unfold ckCells at HSET
        unfold askVal at HASK
        generalize hd : ownCk c = d at *
        clear hd
        have BB := Below.refl W2.heap.size W2
        unfold ckCells at hC2
        obtain ⟨a0, a1, a2⟩ := row3 hA2
        obtain ⟨b0, b1, b2⟩ := row3 hD2
        obtain ⟨y0, y1, y2, y3, y4, y5, y6⟩ := row7 hC2
        simp only [Nat.zero_add] at a1 a2 b1 b2 y1 y2 y3 y4 y5 y6
        go_region_held3 (fun w' => w'.cell? ⟨w.heap.size, 0, none⟩ = some (.string sa) ∧ w'.cell? ⟨w.heap.size, 1, none⟩ = some (.string ha) ∧ w'.cell? ⟨w.heap.size, 2, none⟩ = some (.string pa) ∧
            w'.cell? ⟨w.heap.size + 1, 0, none⟩ = some (.string sb) ∧ w'.cell? ⟨w.heap.size + 1, 1, none⟩ = some (.string hb) ∧ w'.cell? ⟨w.heap.size + 1, 2, none⟩ = some (.string pb) ∧
            w'.cell? ⟨w.heap.size + 2, 0, none⟩ = some (.string d.name) ∧ w'.cell? ⟨w.heap.size + 2, 1, none⟩ = some (.string d.value) ∧ w'.cell? ⟨w.heap.size + 2, 2, none⟩ = some (.string d.domain) ∧ w'.cell? ⟨w.heap.size + 2, 3, none⟩ = some (.string d.path) ∧
            w'.cell? ⟨w.heap.size + 2, 4, none⟩ = some (.int .i64 d.maxAge) ∧ w'.cell? ⟨w.heap.size + 2, 5, none⟩ = some (.int .i64 d.expires) ∧ w'.cell? ⟨w.heap.size + 2, 6, none⟩ = some (.bool d.secure)) (go_keep)
          (first
            | (go_at_call 16; refine (HSET _).mono ?_; rintro r w2 ⟨k1, rfl, hb1, hb2, hb3, hb4⟩; have BB := below_step BB hb4 rfl rfl rfl rfl; obtain ⟨a0, a1, a2⟩ := row3 (hA2.below BB hltA); obtain ⟨b0, b1, b2⟩ := row3 (hD2.below BB hltD); obtain ⟨y0, y1, y2, y3, y4, y5, y6⟩ := row7 (hC2.below BB hlt); have R1 := And.intro hb3 hb2)
            | (go_at_call 18; refine (HWEB _).mono ?_; rintro r w2 ⟨rfl, hb4⟩; have BB := below_step BB hb4 rfl rfl rfl rfl; obtain ⟨a0, a1, a2⟩ := row3 (hA2.below BB hltA); obtain ⟨b0, b1, b2⟩ := row3 (hD2.below BB hltD); obtain ⟨y0, y1, y2, y3, y4, y5, y6⟩ := row7 (hC2.below BB hlt); try have R1 := row_step R1 hb4 rfl)
            | (go_at_call 17; refine (HASK _).mono ?_; rintro r w2 ⟨rfl, hb4⟩; have BB := below_step BB hb4 rfl rfl rfl rfl; obtain ⟨a0, a1, a2⟩ := row3 (hA2.below BB hltA); obtain ⟨b0, b1, b2⟩ := row3 (hD2.below BB hltD); obtain ⟨y0, y1, y2, y3, y4, y5, y6⟩ := row7 (hC2.below BB hlt); try have R1 := row_step R1 hb4 rfl))
        all_goals
          go_wp2
          go_meet
          refine ⟨_, rfl, ?_, ?_⟩
          · exact sa_args R1 rfl
          · exact below_step (Below.alloc BB BB.size _) (Below.refl _ _) rfl rfl rfl rfl
      case rest =>
        obtain ⟨sl, rfl, hst, hb3⟩ := hcut
        generalize wc = W3 at *
        have hs3 := hb3.size
        have hA3 := hA2.below hb3 hltA
        have hD3 := hD2.below hb3 hltD
        have hbw3 := hb2.trans (hb3.mono (by omega))
        have hB3 := hB.below hbw3
        have z0 : W3.cell? ⟨w.heap.size, 0, none⟩ = some (.string sa) := by simpa using hA3.at 0 _ rfl
        have hf : (fits4 sa ha pa = true ∧ fits4 sb hb pb = true) ∧ fits6 c = true := by have := HFB.out; simpa using this
        have h6 : fits6 (ownCk c) = true := by
          have := of_decide_eq_true hf.2
          exact decide_eq_true ⟨this.1, this.2.1, (show (⟨#[]⟩ : ByteArray).size ≤ 2147483647 by decide), (show (⟨#[47]⟩ : ByteArray).size ≤ 2147483647 by decide)⟩
        have hfit := sa_fit (t1 := 2) (t2 := 3) hf.1.1 (fits4_web hf.1.2).1 h6 ⟨by unfold I64 ownCk; simp, by unfold I64 ownCk; simp⟩ ⟨by unfold I64; omega, by unfold I64; omega⟩
        have hsa := (fits4_use hf.1.1).2.1
        have hsb := (fits4_use hf.1.2).2.1
        have HVAL := Valid_any true (.slice none 0 0) (.slice (some ⟨sl, 0, none⟩) 2 2) [] (saSteps 2 3 sa ha pa httpsB hb pb (ownCk c)) W3.heap.size W3 (strs_nil _ _) hst (Nat.le_refl _) (by simp) (fun x hx => by cases hx) (by simp [saSteps]) hfit
        clear hA2 hC2 hD2 hb2 hb3 HFB hf h6
        have HFIT := Lib.hid hfit
        clear hfit
        go_upto_region 5 with (fail)
        go_cut [44] (fun v44 wx => ∃ q, v44 = .bool q ∧ Below W3.heap.size W3 wx ∧ (q = false → isWeb sa = true ∧ validB true [] (saSteps 2 3 sa ha pa httpsB hb pb (ownCk c)) = true))
        case first =>
          go_wp2_with fail
          refine HVAL.mono ?_
          rintro r w5 ⟨rfl, hb5⟩
          obtain ⟨vb, hvb⟩ : ∃ vb, validB true [] (saSteps 2 3 sa ha pa httpsB hb pb (ownCk c)) = vb := ⟨_, rfl⟩
          rw [hvb]
          have HVB := Lib.hid hvb
          clear hvb
          have z5 := (hb5.cell (p := ⟨w.heap.size, 0, none⟩) (by simp; omega)).trans z0
          cases vb
          · go_wp2
            go_meet
            exact ⟨true, rfl, hb5, fun h => by cases h⟩
          · by_cases e1 : sa = ⟨#[104, 116, 116, 112]⟩
            · subst e1
              go_wp2
              go_meet
              exact ⟨false, rfl, hb5, fun _ => ⟨rfl, HVB.out⟩⟩
            · by_cases e2 : sa = ⟨#[104, 116, 116, 112, 115]⟩
              · subst e2
                clear e1
                go_wp2
                go_meet
                exact ⟨false, rfl, hb5, fun _ => ⟨rfl, HVB.out⟩⟩
              · have f1 : (sa.toList == [104, 116, 116, 112]) = false := by rw [toList_lst, beq_eq_false_iff_ne]; exact fun e => e1 (lst_inj e)
                have f2 : (sa.toList == [104, 116, 116, 112, 115]) = false := by rw [toList_lst, beq_eq_false_iff_ne]; exact fun e => e2 (lst_inj e)
                clear e1 e2
                go_wp2
                go_meet
                exact ⟨true, rfl, hb5, fun h => by cases h⟩
        case rest =>
          obtain ⟨q, rfl, hb4, hq⟩ := hcut
          generalize wc = W4 at *
          have HQ := Lib.hid hq
          have hs4 := hb4.size
          have hbw4 := hbw3.trans (hb4.mono (by omega))
          have hst4 := hst.below hb4 (Nat.le_refl _)
          have hA4 := hA3.below hb4 (by omega)
          have hD4 := hD3.below hb4 (by omega)
          clear hq HVAL z0 hA3 hD3 hst hb4
          cases q
          · obtain ⟨g3, g4⟩ := HQ.out rfl
            have hg := valid_good g4 HFIT.out
            have hpb : isPathB (lst pb) = true := (hg.1 ⟨false, 3, httpsB, hb, pb, []⟩ (by simp [saSteps])).path
            have hB4 := hB.below hbw4
            have hargs := fun (X : World) (bb : Below W4.heap.size W4 X) => run_args (strs_nil X X.heap.size) ((hst4.below bb (by omega)).up (Nat.le_trans hs4 bb.size)) ⟨by simp, fun x hx => by cases hx⟩ g4 HFIT.out
            have HLAST := fun X (bb : Below W4.heap.size W4 X) => last_any true (.slice none 0 0) (.slice (some ⟨sl, 0, none⟩) 2 2) [] (saSteps 2 3 sa ha pa httpsB hb pb (ownCk c)) X (hargs X bb) (hB4.below bb)
            have HAL := fun X (bb : Below W4.heap.size W4 X) => alive_any X (hB4.below bb)
            have hlaw := fun o h => law_own (sa := sa) (ha := ha) (pa := pa) (hb := hb) (pb := pb) (c := ownCk c) (o := o) rfl rfl rfl rfl g3 hpb h
            obtain ⟨hq, hhq⟩ : ∃ q, decide (hostB (lst ha) = hostB (lst hb)) = q := ⟨_, rfl⟩
            have fh : ((str (hostB (lst ha))).toList == (str (hostB (lst hb))).toList) = hq := by rw [beq_lst, lst_str, lst_str, hhq]
            rw [hhq] at hlaw
            have HLAW := Lib.hid hlaw
            have BB := Below.refl W4.heap.size W4
            obtain ⟨a0, a1, a2⟩ := row3 hA4
            obtain ⟨b0, b1, b2⟩ := row3 hD4
            simp only [Nat.zero_add] at a1 a2 b1 b2
            have lA : w.heap.size < W4.heap.size := by omega
            have lD : w.heap.size + 1 < W4.heap.size := by omega
            clear hlaw hhq g4 hg HQ hargs hpb
            go_upto_region 7 with (fail)
            cases hq
            · go_region_held3 (fun w' => w'.cell? ⟨w.heap.size, 0, none⟩ = some (.string sa) ∧ w'.cell? ⟨w.heap.size, 1, none⟩ = some (.string ha) ∧ w'.cell? ⟨w.heap.size, 2, none⟩ = some (.string pa) ∧
                  w'.cell? ⟨w.heap.size + 1, 0, none⟩ = some (.string sb) ∧ w'.cell? ⟨w.heap.size + 1, 1, none⟩ = some (.string hb) ∧ w'.cell? ⟨w.heap.size + 1, 2, none⟩ = some (.string pb)) (go_keep)
                (first
                  | (go_at_call 20; refine (HLAST _ (below_step BB (Below.refl _ _) (by rfl) (by rfl) (by rfl) (by rfl))).mono ?_; rintro r w2 ⟨u, o, rfl, hrel, hp, hb4⟩; obtain ⟨L, hoL, hLL⟩ := HLAW.out o hrel; subst hoL; obtain ⟨ao, b, off, cap, rfl, _, _⟩ := hp; have hn : ((pairsOf [L]).getLastD []).length = L.length := (by simp [pairsOf]); rw [hn]; have f9 : ((L.length : Int) == 1) = false := beq_eq_false_iff_ne.2 (fun e => of_decide_eq_false hLL (by omega)); clear hn hLL; have BB := below_step BB hb4 rfl rfl rfl rfl; obtain ⟨a0, a1, a2⟩ := row3 (hA4.below BB lA); obtain ⟨b0, b1, b2⟩ := row3 (hD4.below BB lD))
                  | (go_at_call 22; refine (Host_any _ _ _ _ (by first | exact hsa | exact hsb)).mono ?_; rintro r w2 ⟨rfl, hb4⟩; have BB := below_step BB hb4 rfl rfl rfl rfl; obtain ⟨a0, a1, a2⟩ := row3 (hA4.below BB lA); obtain ⟨b0, b1, b2⟩ := row3 (hD4.below BB lD))
                  | (go_at_call 21; refine (HAL _ (below_step BB (Below.refl _ _) (by rfl) (by rfl) (by rfl) (by rfl))).mono ?_; rintro r w2 ⟨rfl, hb4⟩; have BB := below_step BB hb4 rfl rfl rfl rfl; obtain ⟨a0, a1, a2⟩ := row3 (hA4.below BB lA); obtain ⟨b0, b1, b2⟩ := row3 (hD4.below BB lD)))
              all_goals
                go_wp2
                go_returns
                exact ⟨rfl, hbw4.trans ((below_step BB (Below.refl _ _) rfl rfl rfl rfl).mono (by omega))⟩
            · go_region_held3 (fun w' => w'.cell? ⟨w.heap.size, 0, none⟩ = some (.string sa) ∧ w'.cell? ⟨w.heap.size, 1, none⟩ = some (.string ha) ∧ w'.cell? ⟨w.heap.size, 2, none⟩ = some (.string pa) ∧
                  w'.cell? ⟨w.heap.size + 1, 0, none⟩ = some (.string sb) ∧ w'.cell? ⟨w.heap.size + 1, 1, none⟩ = some (.string hb) ∧ w'.cell? ⟨w.heap.size + 1, 2, none⟩ = some (.string pb)) (go_keep)
                (first
                  | (go_at_call 20; refine (HLAST _ (below_step BB (Below.refl _ _) (by rfl) (by rfl) (by rfl) (by rfl))).mono ?_; rintro r w2 ⟨u, o, rfl, hrel, hp, hb4⟩; obtain ⟨L, hoL, hLL⟩ := HLAW.out o hrel; subst hoL; obtain ⟨ao, b, off, cap, rfl, _, _⟩ := hp; have hn : ((pairsOf [L]).getLastD []).length = 1 := (by have := of_decide_eq_true hLL; simp [pairsOf, this]); rw [hn]; clear hn hLL; have BB := below_step BB hb4 rfl rfl rfl rfl; obtain ⟨a0, a1, a2⟩ := row3 (hA4.below BB lA); obtain ⟨b0, b1, b2⟩ := row3 (hD4.below BB lD))
                  | (go_at_call 22; refine (Host_any _ _ _ _ (by first | exact hsa | exact hsb)).mono ?_; rintro r w2 ⟨rfl, hb4⟩; have BB := below_step BB hb4 rfl rfl rfl rfl; obtain ⟨a0, a1, a2⟩ := row3 (hA4.below BB lA); obtain ⟨b0, b1, b2⟩ := row3 (hD4.below BB lD))
                  | (go_at_call 21; refine (HAL _ (below_step BB (Below.refl _ _) (by rfl) (by rfl) (by rfl) (by rfl))).mono ?_; rintro r w2 ⟨rfl, hb4⟩; have BB := below_step BB hb4 rfl rfl rfl rfl; obtain ⟨a0, a1, a2⟩ := row3 (hA4.below BB lA); obtain ⟨b0, b1, b2⟩ := row3 (hD4.below BB lD)))
              all_goals
                go_wp2
                go_returns
                exact ⟨rfl, hbw4.trans ((below_step BB (Below.refl _ _) rfl rfl rfl rfl).mono (by omega))⟩
          · go_wp2
            go_returns
            exact ⟨rfl, hbw4⟩
end Go.Proofs.YtcofblepdfjhjaaDoor

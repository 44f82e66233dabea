/- The law FnSetAgain: its walk. -/
import Derived.Test.YtcofblepdfjhjaaDoorLawKit
namespace Go.Proofs.YtcofblepdfjhjaaDoor
open Go.RowKit
def againCk (c : PCookie) (vl : ByteArray) : PCookie := { c with value := vl }
theorem again_fits {c : PCookie} {vl : ByteArray} (h : fits6 c = true) (hv : vl.size ≤ 2147483647) : fits6 (againCk c vl) = true := by
  have := of_decide_eq_true h
  exact decide_eq_true ⟨this.1, hv, this.2.2.1, this.2.2.2⟩
set_option maxRecDepth 100000 in
set_option maxHeartbeats 6400000 in
theorem FnSetAgain_any (listed : Bool) (v : Value) (sufs : List ByteArray) (sc ho pa : ByteArray) (c : PCookie) (vl : ByteArray) (w : World) (hB : Base w) (hS : StrsAt w w.heap.size v sufs) (hl : sufs.length ≤ 9223372036854775807) (hsz : ∀ x ∈ sufs, x.size ≤ 9223372036854775807)
    (h1 : sc.size ≤ 9223372036854775807) (h2 : ho.size ≤ 9223372036854775807) (h3 : pa.size ≤ 9223372036854775807) (hc : CkLen c) (hca : I64 c.maxAge) (hce : I64 c.expires) (hvl : vl.size ≤ 9223372036854775807) :
    Calls Tryd.prog 9 #[.bool listed, v, .agg #[.string sc, .string ho, .string pa], .agg (ckCells c).toArray, .string vl] w fun r w' => r = .returned (.bool true) ∧ Below w.heap.size w w' := by
  have HF4 := fun W => zzFits4_any sc ho pa W h1 h2 h3
  have HF6 := fun W => zzFits6_any c W hc
  unfold ckVal at HF6
  have hal : Below w.heap.size w ((w.alloc (.cells [Value.string sc, .string ho, .string pa].toArray 24)).alloc (.cells (ckCells c).toArray 26)) := two_alloc _ _ _
  have hA : RowAt ((w.alloc (.cells [Value.string sc, .string ho, .string pa].toArray 24)).alloc (.cells (ckCells c).toArray 26)) w.heap.size 0 [Value.string sc, .string ho, .string pa] :=
    (RowAt.new w [Value.string sc, .string ho, .string pa] 24).below ((Below.refl (w.heap.size + 1) _).alloc (by simp) _) (by omega)
  have hC : RowAt ((w.alloc (.cells [Value.string sc, .string ho, .string pa].toArray 24)).alloc (.cells (ckCells c).toArray 26)) (w.heap.size + 1) 0 (ckCells c) := by
    have := RowAt.new (w.alloc (.cells [Value.string sc, .string ho, .string pa].toArray 24)) (ckCells c) 26
    simpa using this
  have hsz2 : ((w.alloc (.cells [Value.string sc, .string ho, .string pa].toArray 24)).alloc (.cells (ckCells c).toArray 26)).heap.size = w.heap.size + 2 := by simp
  obtain ⟨W, hW⟩ : ∃ W, (w.alloc (.cells [Value.string sc, .string ho, .string pa].toArray 24)).alloc (.cells (ckCells c).toArray 26) = W := ⟨_, rfl⟩
  rw [hW] at hal hA hC hsz2
  have hW' : (w.alloc (.cells #[.string sc, .string ho, .string pa] 24)).alloc (.cells #[.string c.name, .string c.value, .string c.domain, .string c.path, .int .i64 c.maxAge, .int .i64 c.expires, .bool c.secure] 26) = W := hW
  clear hW
  have hS1 : StrsAt W w.heap.size v sufs := hS.below hal (Nat.le_refl _)
  have HF1 := zzFits1_any v sufs w.heap.size W hS1 hl hsz
  unfold ckCells
  obtain ⟨a0, a1, a2⟩ := row3 hA
  obtain ⟨y0, y1, y2, y3, y4, y5, y6⟩ := row7 hC
  go_enter Tryd.func9, Tryd.ntmps9
  go_upto_region 1 with (fail)
  try rw [hW']
  clear hW'
  go_cut [32] (fun v32 wx => v32 = .bool (!(fits1 sufs && fits4 sc ho pa && fits6 c && decide (vl.size ≤ 2147483647))) ∧ Below W.heap.size W wx)
  case first =>
    as_aux_lemma =>
    cases hf1 : fits1 sufs
    · have H1 := Lib.hid hf1
      clear hf1
      go_wp2_with fail
      refine HF1.mono ?_
      rintro r w1 ⟨rfl, rfl⟩
      rw [H1.out]
      go_wp2
      go_meet
      exact ⟨by rw [H1.out]; rfl, Below.refl _ _⟩
    · have H1 := Lib.hid hf1
      clear hf1
      cases h4 : fits4 sc ho pa
      · have H4 := Lib.hid h4
        clear h4
        go_wp2_with fail
        refine HF1.mono ?_
        rintro r w1 ⟨rfl, rfl⟩
        rw [H1.out]
        go_wp2_with fail
        refine (HF4 _).mono ?_
        rintro r w1 ⟨rfl, hb1⟩
        rw [H4.out]
        go_wp2
        go_meet
        exact ⟨by rw [H1.out, H4.out]; rfl, hb1⟩
      · have H4 := Lib.hid h4
        clear h4
        go_wp2_with fail
        refine HF1.mono ?_
        rintro r w1 ⟨rfl, rfl⟩
        rw [H1.out]
        go_wp2_with fail
        refine (HF4 _).mono ?_
        rintro r w1 ⟨rfl, hb1⟩
        rw [H4.out]
        obtain ⟨y0, y1, y2, y3, y4, y5, y6⟩ := row7 (hC.below hb1 (by omega))
        go_wp2_with fail
        refine (HF6 _).mono ?_
        rintro r w2 ⟨rfl, hb2⟩
        obtain ⟨b6, hb6⟩ : ∃ b6, fits6 c = b6 := ⟨_, rfl⟩
        rw [hb6]
        have H6 := Lib.hid hb6
        clear hb6
        cases b6
        · go_wp2
          go_meet
          exact ⟨by rw [H1.out, H4.out, H6.out]; rfl, hb1.trans (hb2.mono hb1.size)⟩
        · by_cases hlv : vl.size ≤ 2147483647
          · go_wp2
            go_meet
            exact ⟨by rw [H1.out, H4.out, H6.out, decide_eq_true hlv]; simp; omega, hb1.trans (hb2.mono hb1.size)⟩
          · go_wp2
            go_meet
            exact ⟨by rw [H1.out, H4.out, H6.out, decide_eq_false hlv]; simp; omega, hb1.trans (hb2.mono hb1.size)⟩
  case rest =>
    obtain ⟨rfl, hb1⟩ := hcut
    obtain ⟨fb, hfb⟩ : ∃ fb, (fits1 sufs && fits4 sc ho pa && fits6 c && decide (vl.size ≤ 2147483647)) = fb := ⟨_, rfl⟩
    rw [hfb]
    have HFB := Lib.hid hfb
    have hs1 := hb1.size
    clear hfb HF4 HF6 HF1 a0 a1 a2 y0 y1 y2 y3 y4 y5 y6
    have hbw := hal.trans (hb1.mono (by omega))
    cases fb
    · as_aux_lemma =>
      go_wp2
      go_returns
      exact ⟨rfl, hbw⟩
    · have hA1 := hA.below hb1 (by omega)
      have hC1 := hC.below hb1 (by omega)
      have hS2 := hS1.below hb1 (by omega)
      obtain ⟨y0, y1, y2, y3, y4, y5, y6⟩ := row7 hC1
      simp only [Nat.zero_add] at y1 y2 y3 y4 y5 y6
      clear hA hC hS1 hS hb1
      go_upto_region 3 with (fail)
      generalize wc = W1 at *
      go_cut [11] (fun v11 wx => v11 = .pointer (some ⟨W1.heap.size, 0, none⟩) ∧ RowAt wx W1.heap.size 0 (ckCells c) ∧ Loose wx W1.heap.size ∧ wx.heap.size = W1.heap.size + 1 ∧ Below W1.heap.size W1 wx)
      case first =>
        go_wp2
        go_meet
        refine ⟨rfl, RowAt.new W1 (ckCells c) 26, fun i => by simp [go_sem], by simp, (Below.refl _ _).alloc (Nat.le_refl _) _⟩
      case rest =>
        obtain ⟨rfl, hD1, hL1, hs2, hb2⟩ := hcut
        generalize wc = W2 at *
        have z1 : W2.cell? ⟨W1.heap.size, 1, none⟩ = some (.string c.value) := by simpa using hD1.at 1 _ rfl
        have q1 := hL1 1
        clear y0 y1 y2 y3 y4 y5 y6
        go_upto_region 5 with (fail)
        have hDD : RowAt (W2.setCell ⟨W1.heap.size, 1, none⟩ (.string vl)) W1.heap.size 0 (ckCells (againCk c vl)) := hD1.set 1 (.string vl)
        have hs3 : (W2.setCell ⟨W1.heap.size, 1, none⟩ (.string vl)).heap.size = W1.heap.size + 1 := by simp [hs2]
        have hb3 : Below W1.heap.size W1 (W2.setCell ⟨W1.heap.size, 1, none⟩ (.string vl)) := Below.setCell (p := ⟨W1.heap.size, 1, none⟩) hb2 (Nat.le_refl _) _
        generalize W2.setCell ⟨W1.heap.size, 1, none⟩ (.string vl) = W3 at *
        have hD := hDD
        clear hDD
        have hA3 := hA1.below hb3 (by omega)
        have hC3 := hC1.below hb3 (by omega)
        have hbw3 := hbw.trans (hb3.mono (by omega))
        have hf : ((fits1 sufs = true ∧ fits4 sc ho pa = true) ∧ fits6 c = true) ∧ vl.size ≤ 2147483647 := by have := HFB.out; simpa using this
        have hfit := ssa_fit hf.1.1.2 hf.1.2 (again_fits hf.1.2 hf.2) ⟨hca, hce⟩ (show I64 (againCk c vl).maxAge ∧ I64 (againCk c vl).expires from ⟨hca, hce⟩)
        obtain ⟨d, hdd⟩ : ∃ d, againCk c vl = d := ⟨_, rfl⟩
        rw [hdd] at hfit hD
        have HDD := Lib.hid hdd
        clear z1 q1 hD1 hL1 hb2 hA1 hC1 hbw HFB hdd
        have HFIT := Lib.hid hfit
        have hsl := fits1_use hf.1.1.1
        clear hfit hf
        have hS3 : StrsAt W3 w.heap.size v sufs := hS2.below hb3 (by omega)
        clear hS2
        go_cut [12] (fun v12 wx => ∃ sb, v12 = .slice (some ⟨sb, 0, none⟩) 3 3 ∧ StepsAt wx wx.heap.size (.slice (some ⟨sb, 0, none⟩) 3 3) (ssaSteps sc ho pa c d) ∧ Below W3.heap.size W3 wx)
        case first =>
          have HSET2 := fun W => set_any 2 sc ho pa c W
          have HSET3 := fun W => set_any 3 sc ho pa d W
          have HWEB := fun W => web_any sc ho pa W
          have HASK := fun W => ask_any 4 httpsB ho pa W
          unfold SetRes setVal at HSET2 HSET3
          unfold ckCells at HSET2 HSET3
          unfold askVal at HASK
          have BB := Below.refl W3.heap.size W3
          unfold ckCells at hC3 hD
          have hlt : w.heap.size + 1 < W3.heap.size := by omega
          have hltA : w.heap.size < W3.heap.size := by omega
          have hltD : W1.heap.size < W3.heap.size := by omega
          obtain ⟨a0, a1, a2⟩ := row3 hA3
          obtain ⟨y0, y1, y2, y3, y4, y5, y6⟩ := row7 hC3
          obtain ⟨x0, x1, x2, x3, x4, x5, x6⟩ := row7 hD
          simp only [Nat.zero_add] at a1 a2 y1 y2 y3 y4 y5 y6 x1 x2 x3 x4 x5 x6
          go_region_held3 (fun w' => (w'.cell? ⟨w.heap.size, 0, none⟩ = some (.string sc) ∧ w'.cell? ⟨w.heap.size, 1, none⟩ = some (.string ho) ∧ w'.cell? ⟨w.heap.size, 2, none⟩ = some (.string pa) ∧
              w'.cell? ⟨w.heap.size + 1, 0, none⟩ = some (.string c.name) ∧ w'.cell? ⟨w.heap.size + 1, 1, none⟩ = some (.string c.value) ∧ w'.cell? ⟨w.heap.size + 1, 2, none⟩ = some (.string c.domain) ∧ w'.cell? ⟨w.heap.size + 1, 3, none⟩ = some (.string c.path) ∧
              w'.cell? ⟨w.heap.size + 1, 4, none⟩ = some (.int .i64 c.maxAge) ∧ w'.cell? ⟨w.heap.size + 1, 5, none⟩ = some (.int .i64 c.expires) ∧ w'.cell? ⟨w.heap.size + 1, 6, none⟩ = some (.bool c.secure) ∧
              w'.cell? ⟨W1.heap.size, 0, none⟩ = some (.string d.name) ∧ w'.cell? ⟨W1.heap.size, 1, none⟩ = some (.string d.value) ∧ w'.cell? ⟨W1.heap.size, 2, none⟩ = some (.string d.domain) ∧ w'.cell? ⟨W1.heap.size, 3, none⟩ = some (.string d.path) ∧
              w'.cell? ⟨W1.heap.size, 4, none⟩ = some (.int .i64 d.maxAge) ∧ w'.cell? ⟨W1.heap.size, 5, none⟩ = some (.int .i64 d.expires) ∧ w'.cell? ⟨W1.heap.size, 6, none⟩ = some (.bool d.secure))) (go_keep)
            (first
              | (go_at_call 16; refine (HSET2 _).mono ?_; rintro r w2 ⟨b1, rfl, hb1, hb2, hb3, hb4⟩; have BB := below_step BB hb4 rfl rfl rfl rfl; obtain ⟨a0, a1, a2⟩ := row3 (hA3.below BB hltA); obtain ⟨y0, y1, y2, y3, y4, y5, y6⟩ := row7 (hC3.below BB hlt); obtain ⟨x0, x1, x2, x3, x4, x5, x6⟩ := row7 (hD.below BB hltD); (try have R2 := row_step R2 hb4 rfl); have R1 := And.intro hb3 hb2)
              | (go_at_call 16; refine (HSET3 _).mono ?_; rintro r w2 ⟨b1, rfl, hb1, hb2, hb3, hb4⟩; have BB := below_step BB hb4 rfl rfl rfl rfl; obtain ⟨a0, a1, a2⟩ := row3 (hA3.below BB hltA); obtain ⟨y0, y1, y2, y3, y4, y5, y6⟩ := row7 (hC3.below BB hlt); obtain ⟨x0, x1, x2, x3, x4, x5, x6⟩ := row7 (hD.below BB hltD); (try have R1 := row_step R1 hb4 rfl); have R2 := And.intro hb3 hb2)
              | (go_at_call 18; refine (HWEB _).mono ?_; rintro r w2 ⟨rfl, hb4⟩; have BB := below_step BB hb4 rfl rfl rfl rfl; obtain ⟨a0, a1, a2⟩ := row3 (hA3.below BB hltA); obtain ⟨y0, y1, y2, y3, y4, y5, y6⟩ := row7 (hC3.below BB hlt); obtain ⟨x0, x1, x2, x3, x4, x5, x6⟩ := row7 (hD.below BB hltD); (try have R1 := row_step R1 hb4 rfl); (try have R2 := row_step R2 hb4 rfl))
              | (go_at_call 17; refine (HASK _).mono ?_; rintro r w2 ⟨rfl, hb4⟩; have BB := below_step BB hb4 rfl rfl rfl rfl; obtain ⟨a0, a1, a2⟩ := row3 (hA3.below BB hltA); obtain ⟨y0, y1, y2, y3, y4, y5, y6⟩ := row7 (hC3.below BB hlt); obtain ⟨x0, x1, x2, x3, x4, x5, x6⟩ := row7 (hD.below BB hltD); (try have R1 := row_step R1 hb4 rfl); (try have R2 := row_step R2 hb4 rfl)))
          all_goals
            go_wp2
            go_meet
            refine ⟨_, rfl, ?_, ?_⟩
            · exact ssa_args R1 R2 rfl
            · exact below_step (Below.alloc BB BB.size _) (Below.refl _ _) rfl rfl rfl rfl
        case rest =>
          obtain ⟨sb, rfl, hst, hb4⟩ := hcut
          have hs4 := hb4.size
          have hS4 := hS3.below hb4 (by omega)
          have hbw4 := hbw3.trans (hb4.mono (by omega))
          have hB4 := hB.below hbw4
          have hC4 := hC3.below hb4 (by omega)
          have z4 : wc.cell? ⟨w.heap.size + 1, 4, none⟩ = some (.int .i64 c.maxAge) := by simpa using hC4.at 4 _ rfl
          have z5 : wc.cell? ⟨w.heap.size + 1, 5, none⟩ = some (.int .i64 c.expires) := by simpa using hC4.at 5 _ rfl
          clear hA3 hC3 hC4 hD hb3 hS3 hbw3 hb4
          have HVAL := Valid_any listed v (.slice (some ⟨sb, 0, none⟩) 3 3) sufs (ssaSteps sc ho pa c d) wc.heap.size wc (hS4.up (by omega)) hst (Nat.le_refl _) hsl.1 hsl.2 (by simp [ssaSteps]) HFIT.out
          obtain ⟨vb, hvb⟩ : ∃ vb, validB listed sufs (ssaSteps sc ho pa c d) = vb := ⟨_, rfl⟩
          rw [hvb] at HVAL
          have HVB := Lib.hid hvb
          clear hvb
          generalize wc = W4 at *
          go_upto_region 6 with (fail)
          go_cut [60] (fun v60 wx => ∃ q, v60 = .bool q ∧ Below W4.heap.size W4 wx ∧ (q = false → vb = true ∧ c.maxAge = 0 ∧ c.expires = 0))
          case first =>
            have hlt1 : w.heap.size + 1 < W4.heap.size := by omega
            cases vb
            · go_wp2_with fail
              refine HVAL.mono ?_
              rintro r w5 ⟨rfl, hb5⟩
              go_wp2
              go_meet
              exact ⟨true, rfl, hb5, fun h => by cases h⟩
            · go_wp2_with fail
              refine HVAL.mono ?_
              rintro r w5 ⟨rfl, hb5⟩
              have x4 := (hb5.cell (p := ⟨w.heap.size + 1, 4, none⟩) hlt1).trans z4
              have x5 := (hb5.cell (p := ⟨w.heap.size + 1, 5, none⟩) hlt1).trans z5
              clear z4 z5
              generalize c.maxAge = mA at *
              generalize c.expires = eX at *
              by_cases h0 : mA = 0
              · subst h0
                by_cases h1 : eX = 0
                · subst h1
                  go_wp2
                  go_meet
                  exact ⟨false, rfl, hb5, fun _ => by simp⟩
                · have f1 : (eX != 0) = true := bne_iff_ne.2 h1
                  clear h1
                  go_wp2
                  go_meet
                  exact ⟨true, rfl, hb5, fun h => by cases h⟩
              · have f0 : (mA != 0) = true := bne_iff_ne.2 h0
                clear h0
                go_wp2
                go_meet
                exact ⟨true, rfl, hb5, fun h => by cases h⟩
          case rest =>
            obtain ⟨q, rfl, hb5, hq⟩ := hcut
            generalize wc = W5 at *
            have hs5 := hb5.size
            have hbw5 := hbw4.trans (hb5.mono (by omega))
            have hst5 := hst.below hb5 (Nat.le_refl _)
            have hS5 := hS4.below hb5 (by omega)
            clear HVAL z4 z5 hst hS4 hb5
            cases q
            · obtain ⟨rfl, hm0, he0⟩ := hq rfl
              have hg := valid_good HVB.out HFIT.out
              have HLAW := Lib.hid (fun (o1 o2 : List (List Ent)) r1 r2 => law_again (psl := pslOf listed sufs) (sc := sc) (ho := ho) (pa := pa) (c := c) (v := vl) (o1 := o1) (o2 := o2) hm0 he0 r1 r2)
              have hargs1 : ∀ X, Below W5.heap.size W5 X → RunArgs X sufs [⟨true, 3, sc, ho, pa, [d]⟩, ⟨false, 4, httpsB, ho, pa, []⟩] v (.slice (some ⟨sb, 6, none⟩) 2 2) := fun X bb =>
                ⟨(hS5.below bb (by omega)).up (by have := bb.size; omega), ((show StepsAt W5 W4.heap.size (.slice (some ⟨sb, 0 + 6, none⟩) 2 2) [⟨true, 3, sc, ho, pa, [d]⟩, ⟨false, 4, httpsB, ho, pa, []⟩] from StepsAt.drop1 (s0 := ⟨true, 2, sc, ho, pa, [c]⟩) hst5 2).below bb (by omega)).up (by have := bb.size; omega), hsl, fun s hs => (hg.1 s (List.mem_cons_of_mem _ hs)).ok, by simp, fun s hs => (hg.1 s (List.mem_cons_of_mem _ hs)).few⟩
              have HL1 := last_any listed v (.slice (some ⟨sb, 6, none⟩) 2 2) sufs [⟨true, 3, sc, ho, pa, [d]⟩, ⟨false, 4, httpsB, ho, pa, []⟩] W5 (hargs1 W5 (Below.refl _ _)) (hB.below hbw5)
              have HL2 := fun X (bb : Below W5.heap.size W5 X) => last_any listed v (.slice (some ⟨sb, 0, none⟩) 3 3) sufs (ssaSteps sc ho pa c d) X (run_args ((hS5.below bb (by omega)).up (by have := bb.size; omega)) ((hst5.below bb (by omega)).up (by have := bb.size; omega)) hsl HVB.out HFIT.out) ((hB.below hbw5).below bb)
              clear hargs1 hg hst5 hS5 hq
              go_wp2_with fail
              refine HL1.mono ?_
              rintro r w6 ⟨u1, o1, rfl, hrel1, hp1, hb6⟩
              clear HL1
              go_wp2_with fail
              refine (HL2 _ hb6).mono ?_
              rintro r w7 ⟨u2, o2, rfl, hrel2, hp2, hb7⟩
              clear HL2
              have hd := HDD.out
              obtain ⟨L1, L2, rfl, rfl, heq, hle⟩ := HLAW.out o1 o2 (by have h := hrel1; rw [← hd] at h; exact h) (by have h := hrel2; rw [← hd] at h; exact h)
              have e1 : (pairsOf [L1]).getLastD [] = L1.map pairOf := rfl
              have e2 : (pairsOf [L2]).getLastD [] = L2.map pairOf := rfl
              rw [e1] at hp1
              rw [e2] at hp2
              have hle2 : (L2.map pairOf).length ≤ 1 := by simpa using hle
              rw [heq] at hp1
              clear heq hrel1 hrel2 e1 e2 hd hle
              have hpx := hp1.below hb7
              have hbw6 := hbw5.trans (hb6.mono (by omega))
              have hbw7 := hbw6.trans (hb7.mono hbw6.size)
              have HEQ := eqPair_any hpx hp2 (by omega)
              rw [decide_eq_true rfl] at HEQ
              have hB7 := hB.below hbw7
              clear hp1 hpx
              obtain ⟨ao, b, off, cap, rfl, _, _⟩ := hp2
              generalize (L2.map pairOf).length = n2 at *
              go_wp2_with fail
              refine HEQ.mono ?_
              rintro r w8 ⟨rfl, hb8⟩
              have HAL := alive_any w8 (hB7.below hb8)
              have hbw8 := hbw7.trans (hb8.mono hbw7.size)
              clear HEQ
              go_wp2_with fail
              refine HAL.mono ?_
              rintro r w9 ⟨rfl, hb9⟩
              go_wp2
              go_returns
              exact ⟨rfl, hbw8.trans (hb9.mono hbw8.size)⟩
            · go_wp2
              go_returns
              exact ⟨rfl, hbw5⟩
end Go.Proofs.YtcofblepdfjhjaaDoor

/- The law FnDeleted: its walk. -/
import Derived.Test.YtcofblepdfjhjaaDoorLawKit
namespace Go.Proofs.YtcofblepdfjhjaaDoor
open Go.RowKit
def delCk (c : PCookie) (past : Bool) : PCookie := if past then { c with maxAge := 0, expires := 1 } else { c with maxAge := -1 }
def ssaSteps (sc ho pa : ByteArray) (c d : PCookie) : List PStep := [⟨true, 2, sc, ho, pa, [c]⟩, ⟨true, 3, sc, ho, pa, [d]⟩, ⟨false, 4, httpsB, ho, pa, []⟩]
theorem ssa_args {X V : World} {b1 b2 : Nat} {sc ho pa : ByteArray} {c d : PCookie} (R1 : RowAt X b1 0 (ckCells c) ∧ b1 < X.heap.size) (R2 : RowAt X b2 0 (ckCells d) ∧ b2 < X.heap.size)
    (e : V.heap = (X.alloc (.cells (stCells ⟨true, 2, sc, ho, pa, [c]⟩ (.slice (some ⟨b1, 0, none⟩) 1 1) ++ (stCells ⟨true, 3, sc, ho, pa, [d]⟩ (.slice (some ⟨b2, 0, none⟩) 1 1) ++ stCells ⟨false, 4, httpsB, ho, pa, []⟩ (.slice none 0 0))).toArray 32)).heap) :
    StepsAt V V.heap.size (.slice (some ⟨X.heap.size, 0, none⟩) 3 3) (ssaSteps sc ho pa c d) := by
  rw [e]
  exact StepsAt.heap (steps_new X 32 [(⟨true, 2, sc, ho, pa, [c]⟩, .slice (some ⟨b1, 0, none⟩) 1 1), (⟨true, 3, sc, ho, pa, [d]⟩, .slice (some ⟨b2, 0, none⟩) 1 1), (⟨false, 4, httpsB, ho, pa, []⟩, .slice none 0 0)] (fun p hp => by
      simp only [List.mem_cons, List.not_mem_nil, or_false] at hp
      rcases hp with rfl | rfl | rfl
      · exact cookies_one R1
      · exact cookies_one R2
      · exact cookies_nil _ _)) e
theorem del_fits {c : PCookie} {past : Bool} (h : fits6 c = true) : fits6 (delCk c past) = true := by
  cases past <;> exact h
theorem ssa_fit {sc ho pa : ByteArray} {c d : PCookie} (h4 : fits4 sc ho pa = true) (h6 : fits6 c = true) (h6' : fits6 d = true) (hc : I64 c.maxAge ∧ I64 c.expires) (hd : I64 d.maxAge ∧ I64 d.expires) : ∀ s ∈ ssaSteps sc ho pa c d, StFit s := by
  intro s hs
  unfold ssaSteps at hs
  simp only [List.mem_cons, List.not_mem_nil, or_false] at hs
  rcases hs with rfl | rfl | rfl
  · exact fit_one h4 h6 (by unfold I64; omega) hc.1 hc.2
  · exact fit_one h4 h6' (by unfold I64; omega) hd.1 hd.2
  · exact fit_ask (fits4_web h4).1 (by unfold I64; omega)
set_option maxRecDepth 100000 in
set_option maxHeartbeats 6400000 in
theorem FnDeleted_any (listed past : Bool) (v : Value) (sufs : List ByteArray) (sc ho pa : ByteArray) (c : PCookie) (w : World) (hB : Base w) (hS : StrsAt w w.heap.size v sufs) (hl : sufs.length ≤ 9223372036854775807) (hsz : ∀ x ∈ sufs, x.size ≤ 9223372036854775807)
    (h1 : sc.size ≤ 9223372036854775807) (h2 : ho.size ≤ 9223372036854775807) (h3 : pa.size ≤ 9223372036854775807) (hc : CkLen c) (hca : I64 c.maxAge) (hce : I64 c.expires) :
    Calls Tryd.prog 3 #[.bool listed, v, .agg #[.string sc, .string ho, .string pa], .agg (ckCells c).toArray, .bool past] w fun r w' => r = .returned (.bool true) ∧ Below w.heap.size w w' := by
  have HF4 := fun W => zzFits4_any sc ho pa W h1 h2 h3
  have HF6 := fun W => zzFits6_any c W hc
  unfold ckVal at HF6
  have hal : Below w.heap.size w ((w.alloc (.cells [Value.string sc, .string ho, .string pa].toArray 24)).alloc (.cells (ckCells c).toArray 26)) := two_alloc _ _ _
  have hA : RowAt ((w.alloc (.cells [Value.string sc, .string ho, .string pa].toArray 24)).alloc (.cells (ckCells c).toArray 26)) w.heap.size 0 [Value.string sc, .string ho, .string pa] :=
    (RowAt.new w [Value.string sc, .string ho, .string pa] 24).below ((Below.refl (w.heap.size + 1) _).alloc (by simp) _) (by omega)
  have hC : RowAt ((w.alloc (.cells [Value.string sc, .string ho, .string pa].toArray 24)).alloc (.cells (ckCells c).toArray 26)) (w.heap.size + 1) 0 (ckCells c) := by
    have := RowAt.new (w.alloc (.cells [Value.string sc, .string ho, .string pa].toArray 24)) (ckCells c) 26
    simpa using this
  have hsz2 : ((w.alloc (.cells [Value.string sc, .string ho, .string pa].toArray 24)).alloc (.cells (ckCells c).toArray 26)).heap.size = w.heap.size + 2 := by simp
  obtain ⟨W, hW⟩ : ∃ W, (w.alloc (.cells [Value.string sc, .string ho, .string pa].toArray 24)).alloc (.cells (ckCells c).toArray 26) = W := ⟨_, rfl⟩
  rw [hW] at hal hA hC hsz2
  have hW' : (w.alloc (.cells #[.string sc, .string ho, .string pa] 24)).alloc (.cells #[.string c.name, .string c.value, .string c.domain, .string c.path, .int .i64 c.maxAge, .int .i64 c.expires, .bool c.secure] 26) = W := hW
  clear hW
  have hS1 : StrsAt W w.heap.size v sufs := hS.below hal (Nat.le_refl _)
  have HF1 := zzFits1_any v sufs w.heap.size W hS1 hl hsz
  unfold ckCells
  obtain ⟨a0, a1, a2⟩ := row3 hA
  obtain ⟨y0, y1, y2, y3, y4, y5, y6⟩ := row7 hC
  go_enter Tryd.func3, Tryd.ntmps3
  go_upto_region 1 with (fail)
  try rw [hW']
  clear hW'
  go_cut [25] (fun v25 wx => v25 = .bool (!(fits1 sufs && fits4 sc ho pa && fits6 c)) ∧ Below W.heap.size W wx)
  case first =>
    as_aux_lemma =>
    cases hf1 : fits1 sufs
    · have H1 := Lib.hid hf1
      clear hf1
      go_wp2_with fail
      refine HF1.mono ?_
      rintro r w1 ⟨rfl, rfl⟩
      rw [H1.out]
      go_wp2
      go_meet
      exact ⟨by rw [H1.out]; rfl, Below.refl _ _⟩
    · have H1 := Lib.hid hf1
      clear hf1
      cases h4 : fits4 sc ho pa
      · have H4 := Lib.hid h4
        clear h4
        go_wp2_with fail
        refine HF1.mono ?_
        rintro r w1 ⟨rfl, rfl⟩
        rw [H1.out]
        go_wp2_with fail
        refine (HF4 _).mono ?_
        rintro r w1 ⟨rfl, hb1⟩
        rw [H4.out]
        go_wp2
        go_meet
        exact ⟨by rw [H1.out, H4.out]; rfl, hb1⟩
      · have H4 := Lib.hid h4
        clear h4
        go_wp2_with fail
        refine HF1.mono ?_
        rintro r w1 ⟨rfl, rfl⟩
        rw [H1.out]
        go_wp2_with fail
        refine (HF4 _).mono ?_
        rintro r w1 ⟨rfl, hb1⟩
        rw [H4.out]
        obtain ⟨y0, y1, y2, y3, y4, y5, y6⟩ := row7 (hC.below hb1 (by omega))
        go_wp2_with fail
        refine (HF6 _).mono ?_
        rintro r w2 ⟨rfl, hb2⟩
        go_wp2
        go_meet
        exact ⟨by rw [H1.out, H4.out]; rfl, hb1.trans (hb2.mono hb1.size)⟩
  case rest =>
    obtain ⟨rfl, hb1⟩ := hcut
    obtain ⟨fb, hfb⟩ : ∃ fb, (fits1 sufs && fits4 sc ho pa && fits6 c) = fb := ⟨_, rfl⟩
    rw [hfb]
    have HFB := Lib.hid hfb
    have hs1 := hb1.size
    clear hfb HF4 HF6 HF1 a0 a1 a2 y0 y1 y2 y3 y4 y5 y6
    have hbw := hal.trans (hb1.mono (by omega))
    cases fb
    · as_aux_lemma =>
      go_wp2
      go_returns
      exact ⟨rfl, hbw⟩
    · have hA1 := hA.below hb1 (by omega)
      have hC1 := hC.below hb1 (by omega)
      have hS2 := hS1.below hb1 (by omega)
      obtain ⟨y0, y1, y2, y3, y4, y5, y6⟩ := row7 hC1
      simp only [Nat.zero_add] at y1 y2 y3 y4 y5 y6
      clear hA hC hS1 hS hb1
      go_upto_region 3 with (fail)
      generalize wc = W1 at *
      go_cut [11] (fun v11 wx => v11 = .pointer (some ⟨W1.heap.size, 0, none⟩) ∧ RowAt wx W1.heap.size 0 (ckCells c) ∧ Loose wx W1.heap.size ∧ wx.heap.size = W1.heap.size + 1 ∧ Below W1.heap.size W1 wx)
      case first =>
        go_wp2
        go_meet
        refine ⟨rfl, RowAt.new W1 (ckCells c) 26, fun i => by simp [go_sem], by simp, (Below.refl _ _).alloc (Nat.le_refl _) _⟩
      case rest =>
        obtain ⟨rfl, hD1, hL1, hs2, hb2⟩ := hcut
        generalize wc = W2 at *
        have z4 : W2.cell? ⟨W1.heap.size, 4, none⟩ = some (.int .i64 c.maxAge) := by simpa using hD1.at 4 _ rfl
        have z5 : W2.cell? ⟨W1.heap.size, 5, none⟩ = some (.int .i64 c.expires) := by simpa using hD1.at 5 _ rfl
        have q4 := hL1 4
        have q5 := hL1 5
        clear y0 y1 y2 y3 y4 y5 y6
        go_upto_region 5 with (fail)
        go_upto_if 28 with (fail)
        go_cut [11] (fun v11 wx => v11 = .pointer (some ⟨W1.heap.size, 0, none⟩) ∧ RowAt wx W1.heap.size 0 (ckCells (delCk c past)) ∧ wx.heap.size = W1.heap.size + 1 ∧ Below W1.heap.size W1 wx)
        case first =>
          cases past
          · go_wp2
            go_meet
            refine ⟨rfl, hD1.set 4 (.int .i64 (-1)), by simp [hs2], Below.setCell (p := ⟨W1.heap.size, 4, none⟩) hb2 (Nat.le_refl _) _⟩
          · go_wp2
            go_meet
            refine ⟨rfl, ((hD1.set 4 (.int .i64 (-1))).set 4 (.int .i64 0)).set 5 (.int .i64 1), by simp [hs2], Below.setCell (p := ⟨W1.heap.size, 5, none⟩) (Below.setCell (p := ⟨W1.heap.size, 4, none⟩) (Below.setCell (p := ⟨W1.heap.size, 4, none⟩) hb2 (Nat.le_refl _) _) (Nat.le_refl _) _) (Nat.le_refl _) _⟩
        case rest =>
          obtain ⟨rfl, hD, hs3, hb3⟩ := hcut
          generalize wc = W3 at *
          have hA3 := hA1.below hb3 (by omega)
          have hC3 := hC1.below hb3 (by omega)
          have hbw3 := hbw.trans (hb3.mono (by omega))
          have hf : fits1 sufs = true ∧ fits4 sc ho pa = true ∧ fits6 c = true := by have := HFB.out; simpa [and_assoc] using this
          have hdm : I64 (delCk c past).maxAge ∧ I64 (delCk c past).expires := by
            cases past
            · exact ⟨by unfold I64 delCk; simp, hce⟩
            · exact ⟨by unfold I64 delCk; simp, by unfold I64 delCk; simp⟩
          have hfit := ssa_fit hf.2.1 hf.2.2 (del_fits (past := past) hf.2.2) ⟨hca, hce⟩ hdm
          have hrem : (delCk c past).maxAge < 0 ∨ ((delCk c past).maxAge = 0 ∧ (delCk c past).expires ≠ 0 ∧ (delCk c past).expires ≤ 3) := by
            cases past
            · exact Or.inl (by unfold delCk; simp)
            · exact Or.inr (by unfold delCk; simp)
          have hnm : (delCk c past).name = c.name ∧ (delCk c past).domain = c.domain ∧ (delCk c past).path = c.path := by cases past <;> exact ⟨rfl, rfl, rfl⟩
          generalize delCk c past = d at *
          clear z4 z5 q4 q5 hD1 hL1 hb2 hA1 hC1 hbw hdm HFB
          have HFIT := Lib.hid hfit
          have HREM := Lib.hid hrem
          have HNM := Lib.hid hnm
          have hsl := fits1_use hf.1
          clear hfit hrem hnm hf
          have hS3 : StrsAt W3 w.heap.size v sufs := hS2.below hb3 (by omega)
          clear hS2
          go_upto_region 7 with (fail)
          go_cut [12] (fun v12 wx => ∃ sb, v12 = .slice (some ⟨sb, 0, none⟩) 3 3 ∧ StepsAt wx wx.heap.size (.slice (some ⟨sb, 0, none⟩) 3 3) (ssaSteps sc ho pa c d) ∧ Below W3.heap.size W3 wx)
          case first =>
            have HSET2 := fun W => set_any 2 sc ho pa c W
            have HSET3 := fun W => set_any 3 sc ho pa d W
            have HWEB := fun W => web_any sc ho pa W
            have HASK := fun W => ask_any 4 httpsB ho pa W
            unfold SetRes setVal at HSET2 HSET3
            unfold ckCells at HSET2 HSET3
            unfold askVal at HASK
            have BB := Below.refl W3.heap.size W3
            unfold ckCells at hC3 hD
            have hlt : w.heap.size + 1 < W3.heap.size := by omega
            have hltA : w.heap.size < W3.heap.size := by omega
            have hltD : W1.heap.size < W3.heap.size := by omega
            obtain ⟨a0, a1, a2⟩ := row3 hA3
            obtain ⟨y0, y1, y2, y3, y4, y5, y6⟩ := row7 hC3
            obtain ⟨x0, x1, x2, x3, x4, x5, x6⟩ := row7 hD
            simp only [Nat.zero_add] at a1 a2 y1 y2 y3 y4 y5 y6 x1 x2 x3 x4 x5 x6
            go_region_held3 (fun w' => (w'.cell? ⟨w.heap.size, 0, none⟩ = some (.string sc) ∧ w'.cell? ⟨w.heap.size, 1, none⟩ = some (.string ho) ∧ w'.cell? ⟨w.heap.size, 2, none⟩ = some (.string pa) ∧
                w'.cell? ⟨w.heap.size + 1, 0, none⟩ = some (.string c.name) ∧ w'.cell? ⟨w.heap.size + 1, 1, none⟩ = some (.string c.value) ∧ w'.cell? ⟨w.heap.size + 1, 2, none⟩ = some (.string c.domain) ∧ w'.cell? ⟨w.heap.size + 1, 3, none⟩ = some (.string c.path) ∧
                w'.cell? ⟨w.heap.size + 1, 4, none⟩ = some (.int .i64 c.maxAge) ∧ w'.cell? ⟨w.heap.size + 1, 5, none⟩ = some (.int .i64 c.expires) ∧ w'.cell? ⟨w.heap.size + 1, 6, none⟩ = some (.bool c.secure) ∧
                w'.cell? ⟨W1.heap.size, 0, none⟩ = some (.string d.name) ∧ w'.cell? ⟨W1.heap.size, 1, none⟩ = some (.string d.value) ∧ w'.cell? ⟨W1.heap.size, 2, none⟩ = some (.string d.domain) ∧ w'.cell? ⟨W1.heap.size, 3, none⟩ = some (.string d.path) ∧
                w'.cell? ⟨W1.heap.size, 4, none⟩ = some (.int .i64 d.maxAge) ∧ w'.cell? ⟨W1.heap.size, 5, none⟩ = some (.int .i64 d.expires) ∧ w'.cell? ⟨W1.heap.size, 6, none⟩ = some (.bool d.secure))) (go_keep)
              (first
                | (go_at_call 16; refine (HSET2 _).mono ?_; rintro r w2 ⟨b1, rfl, hb1, hb2, hb3, hb4⟩; have BB := below_step BB hb4 rfl rfl rfl rfl; obtain ⟨a0, a1, a2⟩ := row3 (hA3.below BB hltA); obtain ⟨y0, y1, y2, y3, y4, y5, y6⟩ := row7 (hC3.below BB hlt); obtain ⟨x0, x1, x2, x3, x4, x5, x6⟩ := row7 (hD.below BB hltD); (try have R2 := row_step R2 hb4 rfl); have R1 := And.intro hb3 hb2)
                | (go_at_call 16; refine (HSET3 _).mono ?_; rintro r w2 ⟨b1, rfl, hb1, hb2, hb3, hb4⟩; have BB := below_step BB hb4 rfl rfl rfl rfl; obtain ⟨a0, a1, a2⟩ := row3 (hA3.below BB hltA); obtain ⟨y0, y1, y2, y3, y4, y5, y6⟩ := row7 (hC3.below BB hlt); obtain ⟨x0, x1, x2, x3, x4, x5, x6⟩ := row7 (hD.below BB hltD); (try have R1 := row_step R1 hb4 rfl); have R2 := And.intro hb3 hb2)
                | (go_at_call 18; refine (HWEB _).mono ?_; rintro r w2 ⟨rfl, hb4⟩; have BB := below_step BB hb4 rfl rfl rfl rfl; obtain ⟨a0, a1, a2⟩ := row3 (hA3.below BB hltA); obtain ⟨y0, y1, y2, y3, y4, y5, y6⟩ := row7 (hC3.below BB hlt); obtain ⟨x0, x1, x2, x3, x4, x5, x6⟩ := row7 (hD.below BB hltD); (try have R1 := row_step R1 hb4 rfl); (try have R2 := row_step R2 hb4 rfl))
                | (go_at_call 17; refine (HASK _).mono ?_; rintro r w2 ⟨rfl, hb4⟩; have BB := below_step BB hb4 rfl rfl rfl rfl; obtain ⟨a0, a1, a2⟩ := row3 (hA3.below BB hltA); obtain ⟨y0, y1, y2, y3, y4, y5, y6⟩ := row7 (hC3.below BB hlt); obtain ⟨x0, x1, x2, x3, x4, x5, x6⟩ := row7 (hD.below BB hltD); (try have R1 := row_step R1 hb4 rfl); (try have R2 := row_step R2 hb4 rfl)))
            all_goals
              go_wp2
              go_meet
              refine ⟨_, rfl, ?_, ?_⟩
              · exact ssa_args R1 R2 rfl
              · exact below_step (Below.alloc BB BB.size _) (Below.refl _ _) rfl rfl rfl rfl
          case rest =>
            obtain ⟨sb, rfl, hst, hb4⟩ := hcut
            have hs4 := hb4.size
            have hS4 := hS3.below hb4 (by omega)
            have hbw4 := hbw3.trans (hb4.mono (by omega))
            have hB4 := hB.below hbw4
            clear hA3 hC3 hD hb3 hS3 hbw3 hb4
            have HVAL := Valid_any listed v (.slice (some ⟨sb, 0, none⟩) 3 3) sufs (ssaSteps sc ho pa c d) wc.heap.size wc (hS4.up (by omega)) hst (Nat.le_refl _) hsl.1 hsl.2 (by simp [ssaSteps]) HFIT.out
            obtain ⟨vb, hvb⟩ : ∃ vb, validB listed sufs (ssaSteps sc ho pa c d) = vb := ⟨_, rfl⟩
            rw [hvb] at HVAL
            have HVB := Lib.hid hvb
            clear hvb
            generalize wc = W4 at *
            cases vb
            · go_wp2_with fail
              refine HVAL.mono ?_
              rintro r w5 ⟨rfl, hb5⟩
              go_wp2
              go_returns
              exact ⟨rfl, hbw4.trans (hb5.mono (by omega))⟩
            · go_wp2_with fail
              refine HVAL.mono ?_
              rintro r w5 ⟨rfl, hb5⟩
              have hs5 := hb5.size
              have hbw5 := hbw4.trans (hb5.mono (by omega))
              have HL := last_any listed v (.slice (some ⟨sb, 0, none⟩) 3 3) sufs (ssaSteps sc ho pa c d) w5 (run_args ((hS4.below hb5 (by omega)).up (by omega)) ((hst.below hb5 (Nat.le_refl _)).up hs5) hsl HVB.out HFIT.out) (hB.below hbw5)
              clear hst hS4 HVAL
              go_wp2_with fail
              refine HL.mono ?_
              rintro r w6 ⟨u, o, rfl, hrel, hp, hb6⟩
              have ho := law_deleted HNM.out.1 HNM.out.2.1 HNM.out.2.2 HREM.out hrel
              subst ho
              obtain ⟨ao, b, off, cap, rfl, _, _⟩ := hp
              have hn : ((pairsOf [[]]).getLastD []).length = 0 := rfl
              rw [hn]
              have hbw6 := hbw5.trans (hb6.mono (by omega))
              have HAL := alive_any w6 (hB.below hbw6)
              clear hrel hn HL
              go_wp2_with fail
              refine HAL.mono ?_
              rintro r w7 ⟨rfl, hb7⟩
              go_wp2
              go_returns
              exact ⟨rfl, hbw6.trans (hb7.mono hbw6.size)⟩
end Go.Proofs.YtcofblepdfjhjaaDoor

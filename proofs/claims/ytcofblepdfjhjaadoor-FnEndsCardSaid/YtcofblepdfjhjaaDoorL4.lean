/- The law FnEnds: its walk. -/
import Derived.Test.YtcofblepdfjhjaaDoorW29
import Derived.Test.YtcofblepdfjhjaaDoorValidArgs
import Derived.Test.YtcofblepdfjhjaaDoorW11
namespace Go.Proofs.YtcofblepdfjhjaaDoor
open Go.RowKit
def endsCk (c : PCookie) (age : Int) : PCookie := { c with domain := ⟨#[]⟩, path := ⟨#[]⟩, maxAge := age }
def endsSteps (sc ho pa : ByteArray) (c : PCookie) (t : Int) : List PStep := [⟨true, 2, sc, ho, pa, [c]⟩, ⟨false, t, httpsB, ho, pa, []⟩]
theorem ends_args {X V : World} {b1 : Nat} {sc ho pa : ByteArray} {c : PCookie} {t : Int} (R1 : RowAt X b1 0 (ckCells c) ∧ b1 < X.heap.size)
    (e : V.heap = (X.alloc (.cells (stCells ⟨true, 2, sc, ho, pa, [c]⟩ (.slice (some ⟨b1, 0, none⟩) 1 1) ++ stCells ⟨false, t, httpsB, ho, pa, []⟩ (.slice none 0 0)).toArray 32)).heap) :
    StepsAt V V.heap.size (.slice (some ⟨X.heap.size, 0, none⟩) 2 2) (endsSteps sc ho pa c t) := by
  rw [e]
  exact StepsAt.heap (steps_new X 32 [(⟨true, 2, sc, ho, pa, [c]⟩, .slice (some ⟨b1, 0, none⟩) 1 1), (⟨false, t, httpsB, ho, pa, []⟩, .slice none 0 0)] (fun p hp => by
      simp only [List.mem_cons, List.not_mem_nil, or_false] at hp
      rcases hp with rfl | rfl
      · exact cookies_one R1
      · exact cookies_nil _ _)) e
set_option maxRecDepth 100000 in
set_option maxHeartbeats 6400000 in
theorem FnEnds_any (sc ho pa : ByteArray) (c : PCookie) (age t : Int) (w : World) (hB : Base w) (h1 : sc.size ≤ 9223372036854775807) (h2 : ho.size ≤ 9223372036854775807) (h3 : pa.size ≤ 9223372036854775807) (hc : CkLen c) (he : I64 c.expires) (ha : I64 age) (ht : I64 t) :
    Calls Tryd.prog 4 #[.agg #[.string sc, .string ho, .string pa], .agg (ckCells c).toArray, .int .i64 age, .int .i64 t] w fun r w' => r = .returned (.bool true) ∧ Below w.heap.size w w' := by
  have HF4 := fun W => zzFits4_any sc ho pa W h1 h2 h3
  have HF6 := fun W => zzFits6_any c W hc
  unfold ckVal at HF6
  have hal : Below w.heap.size w ((w.alloc (.cells [Value.string sc, .string ho, .string pa].toArray 24)).alloc (.cells (ckCells c).toArray 26)) := two_alloc _ _ _
  have hA : RowAt ((w.alloc (.cells [Value.string sc, .string ho, .string pa].toArray 24)).alloc (.cells (ckCells c).toArray 26)) w.heap.size 0 [Value.string sc, .string ho, .string pa] :=
    (RowAt.new w [Value.string sc, .string ho, .string pa] 24).below ((Below.refl (w.heap.size + 1) _).alloc (by simp) _) (by omega)
  have hC : RowAt ((w.alloc (.cells [Value.string sc, .string ho, .string pa].toArray 24)).alloc (.cells (ckCells c).toArray 26)) (w.heap.size + 1) 0 (ckCells c) := by
    have := RowAt.new (w.alloc (.cells [Value.string sc, .string ho, .string pa].toArray 24)) (ckCells c) 26
    simpa using this
  have hL : Loose ((w.alloc (.cells [Value.string sc, .string ho, .string pa].toArray 24)).alloc (.cells (ckCells c).toArray 26)) (w.heap.size + 1) := fun i => by simp [go_sem]
  have hsz : ((w.alloc (.cells [Value.string sc, .string ho, .string pa].toArray 24)).alloc (.cells (ckCells c).toArray 26)).heap.size = w.heap.size + 2 := by simp
  obtain ⟨W, hW⟩ : ∃ W, (w.alloc (.cells [Value.string sc, .string ho, .string pa].toArray 24)).alloc (.cells (ckCells c).toArray 26) = W := ⟨_, rfl⟩
  rw [hW] at hal hA hC hL hsz
  have hW' : (w.alloc (.cells #[.string sc, .string ho, .string pa] 24)).alloc (.cells #[.string c.name, .string c.value, .string c.domain, .string c.path, .int .i64 c.maxAge, .int .i64 c.expires, .bool c.secure] 26) = W := hW
  clear hW
  unfold ckCells
  obtain ⟨a0, a1, a2⟩ := row3 hA
  obtain ⟨y0, y1, y2, y3, y4, y5, y6⟩ := row7 hC
  go_enter Tryd.func4, Tryd.ntmps4
  go_upto_region 1 with (fail)
  try rw [hW']
  clear hW'
  go_cut [17] (fun v17 wx => v17 = .bool (!(fits4 sc ho pa && fits6 c)) ∧ Below W.heap.size W wx)
  case first =>
    as_aux_lemma =>
    cases h4 : fits4 sc ho pa
    · have H4 := Lib.hid h4
      clear h4
      go_wp2_with fail
      refine (HF4 _).mono ?_
      rintro r w1 ⟨rfl, hb1⟩
      rw [H4.out]
      go_wp2
      go_meet
      exact ⟨by rw [H4.out]; rfl, hb1⟩
    · have H4 := Lib.hid h4
      clear h4
      go_wp2_with fail
      refine (HF4 _).mono ?_
      rintro r w1 ⟨rfl, hb1⟩
      rw [H4.out]
      obtain ⟨y0, y1, y2, y3, y4, y5, y6⟩ := row7 (hC.below hb1 (by omega))
      go_wp2_with fail
      refine (HF6 _).mono ?_
      rintro r w2 ⟨rfl, hb2⟩
      go_wp2
      go_meet
      exact ⟨by rw [H4.out]; rfl, hb1.trans (hb2.mono hb1.size)⟩
  case rest =>
    obtain ⟨rfl, hb1⟩ := hcut
    obtain ⟨fb, hfb⟩ : ∃ fb, (fits4 sc ho pa && fits6 c) = fb := ⟨_, rfl⟩
    rw [hfb]
    have HFB := Lib.hid hfb
    have hs1 := hb1.size
    clear hfb HF4 HF6 a0 a1 a2 y0 y1 y2 y3 y4 y5 y6
    have hbw := hal.trans (hb1.mono (by omega))
    cases fb
    · as_aux_lemma =>
      go_wp2
      go_returns
      exact ⟨rfl, hbw⟩
    · have hA1 := hA.below hb1 (by omega)
      have hC1 := hC.below hb1 (by omega)
      have hL1 := hL.below hb1 (by omega)
      have y2 : wc.cell? ⟨w.heap.size + 1, 2, none⟩ = some (.string c.domain) := by simpa using hC1.at 2 _ rfl
      have y3 : wc.cell? ⟨w.heap.size + 1, 3, none⟩ = some (.string c.path) := by simpa using hC1.at 3 _ rfl
      have y4 : wc.cell? ⟨w.heap.size + 1, 4, none⟩ = some (.int .i64 c.maxAge) := by simpa using hC1.at 4 _ rfl
      have q2 := hL1 2
      have q3 := hL1 3
      have q4 := hL1 4
      go_upto_region 4 with (fail)
      have hA2 : RowAt (((wc.setCell ⟨w.heap.size + 1, 2, none⟩ (.string ⟨#[]⟩)).setCell ⟨w.heap.size + 1, 3, none⟩ (.string ⟨#[]⟩)).setCell ⟨w.heap.size + 1, 4, none⟩ (.int .i64 age)) w.heap.size 0 [Value.string sc, .string ho, .string pa] :=
        hA1.chg ((((Chg.refl (fun b => b = w.heap.size + 1) wc).setCell (p := ⟨w.heap.size + 1, 2, none⟩) (Or.inl rfl) _).setCell (p := ⟨w.heap.size + 1, 3, none⟩) (Or.inl rfl) _).setCell (p := ⟨w.heap.size + 1, 4, none⟩) (Or.inl rfl) _) (by omega) (by omega)
      have hC2 : RowAt (((wc.setCell ⟨w.heap.size + 1, 2, none⟩ (.string ⟨#[]⟩)).setCell ⟨w.heap.size + 1, 3, none⟩ (.string ⟨#[]⟩)).setCell ⟨w.heap.size + 1, 4, none⟩ (.int .i64 age)) (w.heap.size + 1) 0 (ckCells (endsCk c age)) :=
        ((hC1.set 2 (.string ⟨#[]⟩)).set 3 (.string ⟨#[]⟩)).set 4 (.int .i64 age)
      have hb2 : Below w.heap.size w (((wc.setCell ⟨w.heap.size + 1, 2, none⟩ (.string ⟨#[]⟩)).setCell ⟨w.heap.size + 1, 3, none⟩ (.string ⟨#[]⟩)).setCell ⟨w.heap.size + 1, 4, none⟩ (.int .i64 age)) :=
        Below.setCell (p := ⟨w.heap.size + 1, 4, none⟩) (Below.setCell (p := ⟨w.heap.size + 1, 3, none⟩) (Below.setCell (p := ⟨w.heap.size + 1, 2, none⟩) hbw (Nat.le_succ _) _) (Nat.le_succ _) _) (Nat.le_succ _) _
      have hs2 : (((wc.setCell ⟨w.heap.size + 1, 2, none⟩ (.string ⟨#[]⟩)).setCell ⟨w.heap.size + 1, 3, none⟩ (.string ⟨#[]⟩)).setCell ⟨w.heap.size + 1, 4, none⟩ (.int .i64 age)).heap.size = wc.heap.size := by simp
      generalize ((wc.setCell ⟨w.heap.size + 1, 2, none⟩ (.string ⟨#[]⟩)).setCell ⟨w.heap.size + 1, 3, none⟩ (.string ⟨#[]⟩)).setCell ⟨w.heap.size + 1, 4, none⟩ (.int .i64 age) = W2 at *
      clear y2 y3 y4 q2 q3 q4 hA1 hC1 hL1 hA hC hL hbw hal hb1
      have hlt : w.heap.size + 1 < W2.heap.size := by omega
      have hltA : w.heap.size < W2.heap.size := by omega
      go_cut [9] (fun v9 wx => ∃ sb, v9 = .slice (some ⟨sb, 0, none⟩) 2 2 ∧ StepsAt wx wx.heap.size (.slice (some ⟨sb, 0, none⟩) 2 2) (endsSteps sc ho pa (endsCk c age) t) ∧ Below W2.heap.size W2 wx)
      case first =>
        have HSET := fun W => set_any 2 sc ho pa (endsCk c age) W
        have HWEB := fun W => web_any sc ho pa W
        have HASK := fun W => ask_any t httpsB ho pa W
        unfold SetRes setVal at HSET
        unfold ckCells at HSET
        unfold askVal at HASK
        generalize hd : endsCk c age = d at *
        clear hd
        have BB := Below.refl W2.heap.size W2
        unfold ckCells at hC2
        obtain ⟨a0, a1, a2⟩ := row3 hA2
        obtain ⟨y0, y1, y2, y3, y4, y5, y6⟩ := row7 hC2
        simp only [Nat.zero_add] at a1 a2 y1 y2 y3 y4 y5 y6
        go_region_held3 (fun w' => w'.cell? ⟨w.heap.size, 0, none⟩ = some (.string sc) ∧ w'.cell? ⟨w.heap.size, 1, none⟩ = some (.string ho) ∧ w'.cell? ⟨w.heap.size, 2, none⟩ = some (.string pa) ∧
            w'.cell? ⟨w.heap.size + 1, 0, none⟩ = some (.string d.name) ∧ w'.cell? ⟨w.heap.size + 1, 1, none⟩ = some (.string d.value) ∧ w'.cell? ⟨w.heap.size + 1, 2, none⟩ = some (.string d.domain) ∧ w'.cell? ⟨w.heap.size + 1, 3, none⟩ = some (.string d.path) ∧
            w'.cell? ⟨w.heap.size + 1, 4, none⟩ = some (.int .i64 d.maxAge) ∧ w'.cell? ⟨w.heap.size + 1, 5, none⟩ = some (.int .i64 d.expires) ∧ w'.cell? ⟨w.heap.size + 1, 6, none⟩ = some (.bool d.secure)) (go_keep)
          (first
            | (go_at_call 16; refine (HSET _).mono ?_; rintro r w2 ⟨b1, rfl, hb1, hb2, hb3, hb4⟩; have BB := below_step BB hb4 rfl rfl rfl rfl; obtain ⟨a0, a1, a2⟩ := row3 (hA2.below BB hltA); obtain ⟨y0, y1, y2, y3, y4, y5, y6⟩ := row7 (hC2.below BB hlt); have R1 := And.intro hb3 hb2)
            | (go_at_call 18; refine (HWEB _).mono ?_; rintro r w2 ⟨rfl, hb4⟩; have BB := below_step BB hb4 rfl rfl rfl rfl; obtain ⟨a0, a1, a2⟩ := row3 (hA2.below BB hltA); obtain ⟨y0, y1, y2, y3, y4, y5, y6⟩ := row7 (hC2.below BB hlt); try have R1 := row_step R1 hb4 rfl)
            | (go_at_call 17; refine (HASK _).mono ?_; rintro r w2 ⟨rfl, hb4⟩; have BB := below_step BB hb4 rfl rfl rfl rfl; obtain ⟨a0, a1, a2⟩ := row3 (hA2.below BB hltA); obtain ⟨y0, y1, y2, y3, y4, y5, y6⟩ := row7 (hC2.below BB hlt); try have R1 := row_step R1 hb4 rfl))
        all_goals
          go_wp2
          go_meet
          refine ⟨_, rfl, ?_, ?_⟩
          · exact ends_args R1 rfl
          · exact below_step (Below.alloc BB BB.size _) (Below.refl _ _) rfl rfl rfl rfl
      case rest =>
        obtain ⟨sb, rfl, hst, hb3⟩ := hcut
        have hs3 := hb3.size
        have hA3 := hA2.below hb3 hltA
        have hbw3 := hb2.trans (hb3.mono (by omega))
        have hB3 := hB.below hbw3
        have z0 : wc.cell? ⟨w.heap.size, 0, none⟩ = some (.string sc) := by simpa using hA3.at 0 _ rfl
        have hf : fits4 sc ho pa = true ∧ fits6 c = true := by have := HFB.out; simpa using this
        have hfit : ∀ s ∈ endsSteps sc ho pa (endsCk c age) t, StFit s := by
          intro s hs
          unfold endsSteps at hs
          simp only [List.mem_cons, List.not_mem_nil, or_false] at hs
          have h6 : fits6 (endsCk c age) = true := by
            have := of_decide_eq_true hf.2
            exact decide_eq_true ⟨this.1, this.2.1, (show (⟨#[]⟩ : ByteArray).size ≤ 2147483647 by decide), (show (⟨#[]⟩ : ByteArray).size ≤ 2147483647 by decide)⟩
          rcases hs with rfl | rfl
          · exact fit_one hf.1 h6 (by unfold I64; omega) ha he
          · exact fit_ask (fits4_web hf.1).1 ht
        have HVAL := fun W V1 V2 => Valid_any false (.slice none 0 0) (.slice (some ⟨sb, 0, none⟩) 2 2) [] (endsSteps sc ho pa (endsCk c age) t) W.heap.size W V1 V2 (Nat.le_refl _) (by simp) (fun x hx => by cases hx) (by simp [endsSteps]) hfit
        clear hA2 hC2 hb2 hb3
        have HFIT := Lib.hid hfit
        clear hfit
        go_upto_region 5 with (fail)
        go_cut [50] (fun v50 wx => ∃ q, v50 = .bool q ∧ Below wc.heap.size wc wx ∧ (q = false → 0 < age ∧ 2 ≤ t ∧ isWeb sc = true ∧ validB false [] (endsSteps sc ho pa (endsCk c age) t) = true))
        case first =>
          by_cases c1 : age ≤ 0
          · go_wp2
            go_meet
            exact ⟨true, rfl, Below.refl _ _, fun h => by cases h⟩
          · by_cases c2 : t < 2
            · go_wp2
              go_meet
              exact ⟨true, rfl, Below.refl _ _, fun h => by cases h⟩
            · go_wp2_with fail
              refine (HVAL _ (strs_nil _ _) hst).mono ?_
              rintro r w5 ⟨rfl, hb5⟩
              obtain ⟨vb, hvb⟩ : ∃ vb, validB false [] (endsSteps sc ho pa (endsCk c age) t) = vb := ⟨_, rfl⟩
              rw [hvb]
              have HVB := Lib.hid hvb
              clear hvb
              have z5 := (hb5.cell (p := ⟨w.heap.size, 0, none⟩) (by simp; omega)).trans z0
              cases vb
              · go_wp2
                go_meet
                exact ⟨true, rfl, hb5, fun h => by cases h⟩
              · by_cases e1 : sc = ⟨#[104, 116, 116, 112]⟩
                · subst e1
                  go_wp2
                  go_meet
                  exact ⟨false, rfl, hb5, fun _ => ⟨by omega, by omega, rfl, HVB.out⟩⟩
                · by_cases e2 : sc = ⟨#[104, 116, 116, 112, 115]⟩
                  · subst e2
                    clear e1
                    go_wp2
                    go_meet
                    exact ⟨false, rfl, hb5, fun _ => ⟨by omega, by omega, rfl, HVB.out⟩⟩
                  · have f1 : (sc.toList == [104, 116, 116, 112]) = false := by rw [toList_lst, beq_eq_false_iff_ne]; exact fun e => e1 (lst_inj e)
                    have f2 : (sc.toList == [104, 116, 116, 112, 115]) = false := by rw [toList_lst, beq_eq_false_iff_ne]; exact fun e => e2 (lst_inj e)
                    clear e1 e2
                    go_wp2
                    go_meet
                    exact ⟨true, rfl, hb5, fun h => by cases h⟩
        case rest =>
          obtain ⟨q, rfl, hb4, hq⟩ := hcut
          have HQ := Lib.hid hq
          have hs4 := hb4.size
          have hbw4 := hbw3.trans (hb4.mono (by omega))
          have hst4 := hst.below hb4 (Nat.le_refl _)
          clear hq HVAL z0 hA3 hst
          cases q
          · obtain ⟨g1, g2, g3, g4⟩ := HQ.out rfl
            have hg := valid_good g4 HFIT.out
            have hs0 := hg.1 ⟨true, 2, sc, ho, pa, [endsCk c age]⟩ (by simp [endsSteps])
            have hpath : isPathB (lst pa) = true := hs0.path
            have hage : age ≤ 4294967296 := (hs0.ok.cks (endsCk c age) (by simp)).2.1
            have HL := last_any false (.slice none 0 0) (.slice (some ⟨sb, 0, none⟩) 2 2) [] (endsSteps sc ho pa (endsCk c age) t) wc (run_args (strs_nil _ _) (hst4.up hs4) ⟨by simp, fun x hx => by cases hx⟩ g4 HFIT.out) (hB.below hbw4)
            have e1 : IntKind.i64.wrap (2 + age) = 2 + age := IntWalk.i64_in _ (by omega)
            have G3 := Lib.hid g3
            have HP := Lib.hid hpath
            clear hg hs0 hpath g3 g4 HQ HFIT hst4
            go_wp2_with fail
            refine HL.mono ?_
            rintro r w5 ⟨u, o, rfl, hrel, hp, hb5⟩
            obtain ⟨L, rfl, hLL⟩ := law_ends (c := endsCk c age) (age := age) rfl rfl rfl g1 G3.out HP.out hrel
            obtain ⟨ao, b, off, cap, rfl, _, _⟩ := hp
            have hn : ((pairsOf [L]).getLastD []).length = L.length := by simp [pairsOf]
            rw [hn]
            have hx : (((L.length : Int) == 1) == decide (t < 2 + age)) = true := by
              rw [← hLL]
              by_cases h : L.length = 1
              · simp [h]
              · have h' : ((L.length : Int) == 1) = false := beq_eq_false_iff_ne.2 (by omega)
                rw [h', decide_eq_false h]; rfl
            have HX := Lib.hid hx
            have hbf := hbw4.trans (hb5.mono (by omega))
            clear hrel hLL hn hx HL
            go_wp2
            go_returns
            exact ⟨congrArg (fun b => Ending.returned (.bool b)) HX.out, hbf⟩
          · go_wp2
            go_returns
            exact ⟨rfl, hbw4⟩
end Go.Proofs.YtcofblepdfjhjaaDoor

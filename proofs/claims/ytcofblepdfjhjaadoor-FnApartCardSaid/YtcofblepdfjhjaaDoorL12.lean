/- The law FnApart: its walk. -/
import Derived.Test.YtcofblepdfjhjaaDoorStepAll
import Derived.Test.YtcofblepdfjhjaaDoorLawsD
namespace Go.Proofs.YtcofblepdfjhjaaDoor
open Go.RowKit
theorem apart_of {a b : List UInt8} (h : (!apartB (hostB a) (hostB b)) = false) : apartB (low (splitB a).1) (low (splitB b).1) = true := by
  have h2 : apartB (hostB a) (hostB b) = true := by simpa using h
  exact h2
set_option maxRecDepth 100000 in
set_option maxHeartbeats 6400000 in
theorem FnApart_any (listed : Bool) (v : Value) (sufs : List ByteArray) (vs : Value) (ss : List PStep) (sc ho pa : ByteArray) (t : Int) (w : World) (hB : Base w) (hS : StrsAt w w.heap.size v sufs) (hl : sufs.length ≤ 9223372036854775807) (hsz : ∀ x ∈ sufs, x.size ≤ 9223372036854775807)
    (hT : StepsAt w w.heap.size vs ss) (hok : SliceOK vs) (hls : ss.length ≤ 9223372036854775807) (hw1 : ∀ x ∈ ss, StLen x) (hw2 : ∀ s ∈ ss, I64 s.tm ∧ ∀ c ∈ s.cookies, I64 c.maxAge ∧ I64 c.expires)
    (h1 : sc.size ≤ 9223372036854775807) (h2 : ho.size ≤ 9223372036854775807) (h3 : pa.size ≤ 9223372036854775807) (ht : I64 t) :
    Calls Tryd.prog 12 #[.bool listed, v, vs, .agg #[.string sc, .string ho, .string pa], .int .i64 t] w fun r w' => r = .returned (.bool true) ∧ Below w.heap.size w w' := by
  have HF4 := fun W => zzFits4_any sc ho pa W h1 h2 h3
  have HW2 := Lib.hid hw2
  obtain ⟨W, hW⟩ : ∃ W, w.alloc (.cells #[.string sc, .string ho, .string pa] 24) = W := ⟨_, rfl⟩
  have hal : Below w.heap.size w W := by rw [← hW]; exact (Below.refl _ _).alloc (Nat.le_refl _) _
  have hA : RowAt W w.heap.size 0 [Value.string sc, .string ho, .string pa] := by rw [← hW]; exact RowAt.new w [Value.string sc, .string ho, .string pa] 24
  have hszW : W.heap.size = w.heap.size + 1 := by rw [← hW]; simp
  have hS1 : StrsAt W w.heap.size v sufs := hS.below hal (Nat.le_refl _)
  have hT1 := hT.below hal (Nat.le_refl _)
  have HF1 := zzFits1_any v sufs w.heap.size W hS1 hl hsz
  have HF2 := fun X (hh : StepsAt X w.heap.size vs ss) (hle : w.heap.size ≤ X.heap.size) => zzFits2_any vs ss w.heap.size X hh hle hls hw1
  obtain ⟨a0, a1, a2⟩ := row3 hA
  clear hw1 hw2
  go_enter Tryd.func12, Tryd.ntmps12
  go_upto_region 1 with (fail)
  try rw [hW]
  clear hW
  go_cut [25] (fun v25 wx => v25 = .bool (!(fits1 sufs && fits2 ss && fits4 sc ho pa)) ∧ Below W.heap.size W wx)
  case first =>
    as_aux_lemma =>
    cases hf1 : fits1 sufs
    · have H1 := Lib.hid hf1
      clear hf1
      go_wp2_with fail
      refine HF1.mono ?_
      rintro r w1 ⟨rfl, rfl⟩
      rw [H1.out]
      go_wp2
      go_meet
      exact ⟨by rw [H1.out]; rfl, Below.refl _ _⟩
    · have H1 := Lib.hid hf1
      clear hf1
      cases hf2 : fits2 ss
      · have H2 := Lib.hid hf2
        clear hf2
        go_wp2_with fail
        refine HF1.mono ?_
        rintro r w1 ⟨rfl, rfl⟩
        rw [H1.out]
        go_wp2_with fail
        refine (HF2 _ hT1 (by omega)).mono ?_
        rintro r w1 ⟨rfl, hb1⟩
        rw [H2.out]
        go_wp2
        go_meet
        exact ⟨by rw [H1.out, H2.out]; rfl, hb1⟩
      · have H2 := Lib.hid hf2
        clear hf2
        go_wp2_with fail
        refine HF1.mono ?_
        rintro r w1 ⟨rfl, rfl⟩
        rw [H1.out]
        go_wp2_with fail
        refine (HF2 _ hT1 (by omega)).mono ?_
        rintro r w1 ⟨rfl, hb1⟩
        rw [H2.out]
        obtain ⟨a0, a1, a2⟩ := row3 (hA.below hb1 (by omega))
        go_wp2_with fail
        refine (HF4 _).mono ?_
        rintro r w2 ⟨rfl, hb2⟩
        go_wp2
        go_meet
        exact ⟨by rw [H1.out, H2.out]; rfl, hb1.trans (hb2.mono hb1.size)⟩
  case rest =>
    obtain ⟨rfl, hb1⟩ := hcut
    obtain ⟨fb, hfb⟩ : ∃ fb, (fits1 sufs && fits2 ss && fits4 sc ho pa) = fb := ⟨_, rfl⟩
    rw [hfb]
    have HFB := Lib.hid hfb
    have hs1 := hb1.size
    clear hfb HF4 HF1 HF2 a0 a1 a2
    have hbw := hal.trans (hb1.mono (by omega))
    generalize wc = W1 at *
    cases fb
    · as_aux_lemma =>
      go_wp2
      go_returns
      exact ⟨rfl, hbw⟩
    · have hA1 := hA.below hb1 (by omega)
      have hS2 := hS1.below hb1 (by omega)
      have hT2 := hT1.below hb1 (by omega)
      have hf : (fits1 sufs = true ∧ fits2 ss = true) ∧ fits4 sc ho pa = true := by have := HFB.out; simpa using this
      have hsl := fits1_use hf.1.1
      obtain ⟨hsn, hfit⟩ := fits2_use hf.1.2 HW2.out
      have hfits : ∀ s ∈ ss ++ [⟨false, t, sc, ho, pa, []⟩], StFit s := fun s hs => by
        rcases List.mem_append.1 hs with h | h
        · exact hfit s h
        · rw [List.mem_singleton] at h
          subst h
          exact fit_ask hf.2 ht
      have hho := (fits4_use hf.2).2.1
      have hB1 := hB.below hbw
      clear HFB hf HW2 hS hT hS1 hT1 hA hal hb1 hfit
      have HFIT := Lib.hid hfits
      clear hfits
      have hwB : w.heap.size ≤ W1.heap.size := by omega
      have hltA : w.heap.size < W1.heap.size := by omega
      clear hs1 hszW
      have hCL := fun (X : World) (bb : Below W1.heap.size W1 X) => cloneStep_any vs ss X ((hT2.below bb hwB).up (Nat.le_trans hwB bb.size)) hok hsn
      go_upto_region 3 with (fail)
      go_cut [11] (fun v11 wx => ∃ u, u = v11 ∧ StepsAt wx wx.heap.size u (ss ++ [⟨false, t, sc, ho, pa, []⟩]) ∧ Below W1.heap.size W1 wx)
      case first =>
        have HASK := fun W => ask_any t sc ho pa W
        unfold askVal at HASK
        have BB := Below.refl W1.heap.size W1
        obtain ⟨a0, a1, a2⟩ := row3 hA1
        simp only [Nat.zero_add] at a1 a2
        clear hS2 HFIT hsl hho hB1 hbw
        go_region_held3 (fun w' => w'.cell? ⟨w.heap.size, 0, none⟩ = some (.string sc) ∧ w'.cell? ⟨w.heap.size, 1, none⟩ = some (.string ho) ∧ w'.cell? ⟨w.heap.size, 2, none⟩ = some (.string pa)) (go_keep)
          (first
            | (go_at_call 17; refine (HASK _).mono ?_; rintro r w2 ⟨rfl, hb4⟩; have GO := below_on BB (by first | exact ⟨rfl, rfl, rfl, Or.inl rfl⟩ | exact ⟨rfl, rfl, rfl, Or.inr ⟨_, rfl⟩⟩) hb4; clear hb4; (try replace hown := own_on hown GO); (try replace BC := bel_on BC GO); replace BB := bel_on BB GO; clear GO; clear a0 a1 a2; obtain ⟨a0, a1, a2⟩ := row3 (hA1.below BB hltA); simp only [Nat.zero_add] at a1 a2)
            | (go_at_call 27; refine (hCL _ (below_now BB (by first | exact ⟨rfl, rfl, rfl, Or.inl rfl⟩ | exact ⟨rfl, rfl, rfl, Or.inr ⟨_, rfl⟩⟩))).mono ?_; rintro r w2 hcl; have hb4 := clone_bel hcl; have GO := below_on BB (by first | exact ⟨rfl, rfl, rfl, Or.inl rfl⟩ | exact ⟨rfl, rfl, rfl, Or.inr ⟨_, rfl⟩⟩) hb4; (try have RB := laid_on (us := [.bool false, .int .i64 t, .string sc, .string ho, .string pa, .slice none 0 0]) (T := 32) (by rfl) hb4); clear hb4; obtain ⟨X, u, L, rfl, hL, hown, hck, BC, hAX⟩ := clone_on BB (by first | exact ⟨rfl, rfl, rfl, Or.inl rfl⟩ | exact ⟨rfl, rfl, rfl, Or.inr ⟨_, rfl⟩⟩) hcl; clear hcl; have hLl := clone_len hL hsn; replace BB := bel_on BB GO; clear GO; clear a0 a1 a2; obtain ⟨a0, a1, a2⟩ := row3 (hA1.below BB hltA); simp only [Nat.zero_add] at a1 a2)
            | (refine step_app (M := [askS t sc ho pa]) _ _ (by rfl) (by rfl) (by rfl) (by rfl) (by first | exact ⟨rfl, rfl, rfl, Or.inl rfl⟩ | exact ⟨rfl, rfl, rfl, Or.inr ⟨_, rfl⟩⟩) hown hL hLl (by simp) (by simp) BC BB hAX hck (ask_news t sc ho pa) (by first | exact (row_now RB (by first | exact ⟨rfl, rfl, rfl, Or.inl rfl⟩ | exact ⟨rfl, rfl, rfl, Or.inr ⟨_, rfl⟩⟩)).1 | exact (laid_now (us := [.bool false, .int .i64 t, .string sc, .string ho, .string pa, .slice none 0 0]) (T := 32) (by rfl)).1) (fun _ _ => ask_ck) ?_; intro g cap w3 HX; replace BB := HX.bel; clear a0 a1 a2; obtain ⟨a0, a1, a2⟩ := row3 (hA1.below BB hltA); simp only [Nat.zero_add] at a1 a2)
            | fail "no arm")
        all_goals
          go_wp2
          go_meet
          exact ⟨_, rfl, HX.st, BB⟩
      case rest =>
        obtain ⟨um, rfl, hst, hb2⟩ := hcut
        have hA2 := hA1.below hb2 hltA
        have hS3 : StrsAt wc w.heap.size v sufs := hS2.below hb2 hwB
        have hT3 := hT2.below hb2 hwB
        have hbw2 := hbw.trans (hb2.mono hwB)
        have hB2 := hB.below hbw2
        have hsz2 := hb2.size
        clear hb2 hS2 hT2 hA1 hB1 hbw hCL
        generalize wc = W2 at *
        have hltA2 : w.heap.size < W2.heap.size := by omega
        have hwB2 : w.heap.size ≤ W2.heap.size := by omega
        clear hsz2 hltA hwB
        obtain ⟨all, hall⟩ : ∃ all, ss ++ [⟨false, t, sc, ho, pa, []⟩] = all := ⟨_, rfl⟩
        have HALL := Lib.hid hall
        have hal : all.length = ss.length + 1 := by rw [← hall, List.length_append]; rfl
        rw [hall] at hst HFIT
        clear hall
        have HVAL := Valid_any listed v um sufs all W2.heap.size W2 (strs_at hS3 hwB2 (Below.refl _ _)) hst (Nat.le_refl _) hsl.1 hsl.2 (by omega) HFIT.out
        obtain ⟨vb, hvb⟩ : ∃ vb, validB listed sufs all = vb := ⟨_, rfl⟩
        have HVB := Lib.hid hvb
        rw [hvb] at HVAL
        clear hvb hal
        cases vb
        · as_aux_lemma =>
          go_wp2_with fail
          refine HVAL.mono ?_
          rintro r w3 ⟨rfl, hb3⟩
          go_wp2
          go_returns
          exact ⟨rfl, hbw2.trans (hb3.mono hwB2)⟩
        · go_wp2_with fail
          refine HVAL.mono ?_
          rintro r w3 ⟨rfl, hb3⟩
          have hA3 := hA2.below hb3 hltA2
          have hS4 : StrsAt w3 w.heap.size v sufs := hS3.below hb3 hwB2
          have hT4 := hT3.below hb3 hwB2
          have hst3 := steps_on hst hb3
          have hbw3 := hbw2.trans (hb3.mono hwB2)
          have hB3 := hB.below hbw3
          have hltA3 : w.heap.size < w3.heap.size := Nat.lt_of_lt_of_le hltA2 hb3.size
          have hwB3 : w.heap.size ≤ w3.heap.size := Nat.le_of_lt hltA3
          clear HVAL hb3 hA2 hS3 hT3 hst hbw2 hB2 hltA2 hwB2
          generalize w3 = W3 at *
          have hgood := valid_good HVB.out HFIT.out
          have hmem : ∀ s ∈ ss, s ∈ all := fun s hs => by rw [← HALL.out]; exact List.mem_append_left _ hs
          have hask : (⟨false, t, sc, ho, pa, []⟩ : PStep) ∈ all := by rw [← HALL.out]; simp
          have hho2 : ho.size ≤ 4294967296 := Nat.le_trans hho (by decide)
          obtain ⟨near, hnear⟩ : ∃ near, ss.filter (fun s => !apartB (hostB (lst s.host)) (hostB (lst ho))) = near := ⟨_, rfl⟩
          have HNEAR := Lib.hid hnear
          have hnin : ∀ s ∈ near, s ∈ ss := fun s hs => by rw [← hnear] at hs; exact (List.mem_filter.1 hs).1
          have hnl : near.length ≤ ss.length := by rw [← hnear]; exact List.length_filter_le _ _
          have hl1 : all.length = ss.length + 1 := by rw [← HALL.out, List.length_append]; rfl
          have hokn : ∀ s ∈ near ++ [⟨false, t, sc, ho, pa, []⟩], StepOK s ∧ s.cookies.length ≤ 64 := fun s hs => by
            rcases List.mem_append.1 hs with h | h
            · exact ⟨(hgood.1 s (hmem s (hnin s h))).ok, (hgood.1 s (hmem s (hnin s h))).few⟩
            · rw [List.mem_singleton] at h
              subst h
              exact ⟨(hgood.1 _ hask).ok, (hgood.1 _ hask).few⟩
          have hnn : (near ++ [(⟨false, t, sc, ho, pa, []⟩ : PStep)]).length ≤ 64 := by
            have := hgood.2.1
            rw [List.length_append, List.length_singleton]; omega
          have HL1 := fun (X : World) (bb : Below W3.heap.size W3 X) => last_any listed v um sufs all X (run_args (strs_at hS4 hwB3 bb) (steps_on hst3 bb) hsl HVB.out HFIT.out) (hB3.below bb)
          have HL2 := fun (X : World) (u : Value) (st : StepsAt X X.heap.size u (near ++ [⟨false, t, sc, ho, pa, []⟩])) (bb : Below W3.heap.size W3 X) =>
            last_any listed v u sufs (near ++ [⟨false, t, sc, ho, pa, []⟩]) X ⟨strs_at hS4 hwB3 bb, st, hsl, fun s hs => (hokn s hs).1, hnn, fun s hs => (hokn s hs).2⟩ (hB3.below bb)
          have HLAW : ∀ o1 o2, RunRel (pslOf listed sufs) noJar 0 all o1 → RunRel (pslOf listed sufs) noJar 0 (near ++ [⟨false, t, sc, ho, pa, []⟩]) o2 → (pairsOf o1).getLastD [] = (pairsOf o2).getLastD [] := fun o1 o2 r1 r2 => by
            rw [← HALL.out] at r1
            rw [← HNEAR.out] at r2
            obtain ⟨p1, p2, L1, L2, rfl, rfl, e⟩ := law_apart (q := fun s => !apartB (hostB (lst s.host)) (hostB (lst ho))) rfl (fun s hs hq => apart_keys (hgood.1 s (hmem s hs)).host (hgood.1 _ hask).host (apart_of hq)) r1 r2
            rw [pairs_end, pairs_end, e]
          have HLEN := fun o1 (r1 : RunRel (pslOf listed sufs) noJar 0 all o1) => last_len (run_len r1 (fun s hs => ⟨(hgood.1 s hs).ok, (hgood.1 s hs).few⟩) hgood.2.1)
          have HLAWH := Lib.hid HLAW
          have HLENH := Lib.hid HLEN
          have hfits : ∀ s ∈ ss, s.host.size ≤ 4294967296 := fun s hs => (HFIT.out s (hmem s hs)).2.1
          have HFS := Lib.hid hfits
          have hCL := cloneStep_any vs ss W3 (hT4.up hwB3) hok hsn
          clear hgood hmem hask hnear hnin hnl hl1 hokn hnn HLAW HLEN hfits hho hT4 hst3 hS4
          go_upto_region 6 with (fail)
          go_wp2_with fail
          refine hCL.mono ?_
          rintro r w4 hcl
          obtain ⟨u, L, rfl, hL, hown, hck, hb4⟩ := clone_own hcl
          have hLl := clone_len hL hsn
          have hDEL := delStep_own W3 (fun s => apartB (hostB (lst s.host)) (hostB (lst ho))) 31 #[.pointer (some ⟨w.heap.size, 0, none⟩)] (enters_of Tryd.func31 (by kernel_rfl) rfl) w4 u L hb4 hown hLl
            (fun W p hp hb => apartDel_any p.1 p.2 w.heap.size sc ho pa W (hA3.below hb hltA3) (Nat.lt_of_lt_of_le hltA3 hb.size) (HFS.out _ (by rw [← hL]; exact List.mem_map_of_mem hp)) hho2) hck
          clear hcl hCL hown hb4
          go_wp2_with fail
          refine hDEL.mono ?_
          rintro r w5 ⟨un, rfl, hown, hb5⟩
          obtain ⟨M, hM⟩ : ∃ M, L.filter (fun p => !apartB (hostB (lst p.1.host)) (hostB (lst ho))) = M := ⟨_, rfl⟩
          rw [hM] at hown
          have hMn : M.map (·.1) = near := by
            rw [← HNEAR.out, ← hM, ← hL, List.filter_map]
            rfl
          have hMck : ∀ p ∈ M, CookiesAt W3 W3.heap.size p.2 p.1.cookies := fun p hp => hck p (by rw [← hM] at hp; exact (List.mem_filter.1 hp).1)
          have hMl : M.length ≤ 2147483647 := by
            have : M.length ≤ L.length := by rw [← hM]; exact List.length_filter_le _ _
            omega
          clear hDEL hM hck hL hLl
          have BB := hb5
          have hbw5 := hbw3.trans (hb5.mono hwB3)
          clear hb5
          go_upto_region 7 with (fail)
          have HASK := fun W => ask_any t sc ho pa W
          unfold askVal at HASK
          obtain ⟨a0, a1, a2⟩ := row3 (hA3.below BB hltA3)
          simp only [Nat.zero_add] at a1 a2
          go_region_held3 (fun w' => w'.cell? ⟨w.heap.size, 0, none⟩ = some (.string sc) ∧ w'.cell? ⟨w.heap.size, 1, none⟩ = some (.string ho) ∧ w'.cell? ⟨w.heap.size, 2, none⟩ = some (.string pa)) (go_keep)
            (first
              | (go_at_call 17; refine (HASK _).mono ?_; rintro r w2 ⟨rfl, hb4⟩; have GO := below_on BB (by first | exact ⟨rfl, rfl, rfl, Or.inl rfl⟩ | exact ⟨rfl, rfl, rfl, Or.inr ⟨_, rfl⟩⟩) hb4; clear hb4; replace hown := own_on hown GO; (try replace P1 := P1.below GO); replace BB := bel_on BB GO; clear GO; clear a0 a1 a2; obtain ⟨a0, a1, a2⟩ := row3 (hA3.below BB hltA3); simp only [Nat.zero_add] at a1 a2)
              | (have g1 := ST; clear g1; go_at_call 20; refine (HL2 _ _ (steps_on ST (Same.below (by first | exact ⟨rfl, rfl, rfl, Or.inl rfl⟩ | exact ⟨rfl, rfl, rfl, Or.inr ⟨_, rfl⟩⟩))) (below_now BB (by first | exact ⟨rfl, rfl, rfl, Or.inl rfl⟩ | exact ⟨rfl, rfl, rfl, Or.inr ⟨_, rfl⟩⟩))).mono ?_; rintro r w2 ⟨u2, o2, rfl, hrel2, P2, hb4⟩; have GO := below_on BB (by first | exact ⟨rfl, rfl, rfl, Or.inl rfl⟩ | exact ⟨rfl, rfl, rfl, Or.inr ⟨_, rfl⟩⟩) hb4; clear hb4; (try replace P1 := P1.below GO); replace BB := bel_on BB GO; clear GO ST; clear a0 a1 a2; obtain ⟨a0, a1, a2⟩ := row3 (hA3.below BB hltA3); simp only [Nat.zero_add] at a1 a2)
              | (go_at_call 20; refine (HL1 _ (below_now BB (by first | exact ⟨rfl, rfl, rfl, Or.inl rfl⟩ | exact ⟨rfl, rfl, rfl, Or.inr ⟨_, rfl⟩⟩))).mono ?_; rintro r w2 ⟨u1, o1, rfl, hrel1, hp1, hb4⟩; (first | have P1 := pairs_apart hp1 hown (by first | exact ⟨rfl, rfl, rfl, Or.inl rfl⟩ | exact ⟨rfl, rfl, rfl, Or.inr ⟨_, rfl⟩⟩) | have P1 := hp1);  have GO := below_on BB (by first | exact ⟨rfl, rfl, rfl, Or.inl rfl⟩ | exact ⟨rfl, rfl, rfl, Or.inr ⟨_, rfl⟩⟩) hb4; (first | replace RB := row_on RB GO | have RB := laid_on (us := [.bool false, .int .i64 t, .string sc, .string ho, .string pa, .slice none 0 0]) (T := 32) (by rfl) hb4 | skip); clear hb4 hp1; (try replace hown := own_on hown GO); (try replace ST := steps_on ST GO); (try replace P2 := P2.below GO); replace BB := bel_on BB GO; clear GO; clear a0 a1 a2; obtain ⟨a0, a1, a2⟩ := row3 (hA3.below BB hltA3); simp only [Nat.zero_add] at a1 a2)
              | (go_at_call 26; refine (eqPair_eq BB (by first | exact ⟨rfl, rfl, rfl, Or.inl rfl⟩ | exact ⟨rfl, rfl, rfl, Or.inr ⟨_, rfl⟩⟩) P1 P2 (HLENH.out _ hrel1) (HLAWH.out _ _ hrel1 hrel2)).mono ?_; rintro r w2 ⟨rfl, hb4⟩; have GO := below_on BB (by first | exact ⟨rfl, rfl, rfl, Or.inl rfl⟩ | exact ⟨rfl, rfl, rfl, Or.inr ⟨_, rfl⟩⟩) hb4; clear hb4; replace BB := bel_on BB GO; clear GO; clear a0 a1 a2; obtain ⟨a0, a1, a2⟩ := row3 (hA3.below BB hltA3); simp only [Nat.zero_add] at a1 a2)
              | (go_at_call 21; refine (alive_any _ (hB3.below (below_now BB (by first | exact ⟨rfl, rfl, rfl, Or.inl rfl⟩ | exact ⟨rfl, rfl, rfl, Or.inr ⟨_, rfl⟩⟩)))).mono ?_; rintro r w2 ⟨rfl, hb4⟩; have GO := below_on BB (by first | exact ⟨rfl, rfl, rfl, Or.inl rfl⟩ | exact ⟨rfl, rfl, rfl, Or.inr ⟨_, rfl⟩⟩) hb4; clear hb4; replace BB := bel_on BB GO; clear GO; clear a0 a1 a2; obtain ⟨a0, a1, a2⟩ := row3 (hA3.below BB hltA3); simp only [Nat.zero_add] at a1 a2)
              | (refine step_app (M := [askS t sc ho pa]) _ _ (by rfl) (by rfl) (by rfl) (by rfl) (by first | exact ⟨rfl, rfl, rfl, Or.inl rfl⟩ | exact ⟨rfl, rfl, rfl, Or.inr ⟨_, rfl⟩⟩) hown hMn hMl (by simp) (by simp) BB BB (Nat.le_refl _) hMck (ask_news t sc ho pa) (by first | exact (row_now RB (by first | exact ⟨rfl, rfl, rfl, Or.inl rfl⟩ | exact ⟨rfl, rfl, rfl, Or.inr ⟨_, rfl⟩⟩)).1 | exact (laid_now (us := [.bool false, .int .i64 t, .string sc, .string ho, .string pa, .slice none 0 0]) (T := 32) (by rfl)).1) (fun _ _ => ask_ck) ?_; intro g cap w3 HX; (try replace P1 := pairs_app P1 (by first | exact ⟨rfl, rfl, rfl, Or.inl rfl⟩ | exact ⟨rfl, rfl, rfl, Or.inr ⟨_, rfl⟩⟩) HX.grown); have ST := HX.st; replace BB := HX.bel; clear HX hown; clear a0 a1 a2; obtain ⟨a0, a1, a2⟩ := row3 (hA3.below BB hltA3); simp only [Nat.zero_add] at a1 a2)
              | fail "no arm")
          all_goals
            go_wp2
            go_returns
            exact ⟨rfl, hbw3.trans (BB.mono hwB3)⟩
end Go.Proofs.YtcofblepdfjhjaaDoor

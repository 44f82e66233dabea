/- The law FnSecure: its walk. -/
import Derived.Test.YtcofblepdfjhjaaDoorLawKit
import Derived.Test.YtcofblepdfjhjaaDoorSufAll
namespace Go.Proofs.YtcofblepdfjhjaaDoor
open Go.RowKit
/-- A block laid just ahead of a call. -/
theorem new_step {A X W w' : World} {us : List Value} {T : TypeId} (hA : Below A.heap.size A X) (hb : Below W.heap.size W w') (e : W.heap = (X.alloc (.cells us.toArray T)).heap) : (RowAt w' X.heap.size 0 us ∧ X.heap.size < w'.heap.size) ∧ Loose w' X.heap.size ∧ A.heap.size ≤ X.heap.size := by
  have hs : W.heap.size = X.heap.size + 1 := by rw [e]; simp
  have h1 : RowAt W X.heap.size 0 us := fun i u hu => by
    have := RowAt.new X us T i u hu
    unfold World.cell? at this ⊢
    rw [e]; exact this
  have h2 : Loose W X.heap.size := fun i => by
    have : (X.alloc (.cells us.toArray T)).frozen? ⟨X.heap.size, i, none⟩ = false := by simp [go_sem]
    unfold World.frozen? at this ⊢
    rw [e]; exact this
  exact ⟨⟨h1.below hb (by omega), by have := hb.size; omega⟩, h2.below hb (by omega), hA.size⟩
theorem new_lt {X W : World} {us : List Value} {T : TypeId} (e : W.heap = (X.alloc (.cells us.toArray T)).heap) : X.heap.size < W.heap.size := by rw [e]; simp
theorem strs_now {A X : World} {B : Nat} {v : Value} {ls : List ByteArray} (h : StrsAt A B v ls) (hB : B ≤ A.heap.size) (bb : Below A.heap.size A X) : StrsAt X X.heap.size v ls := (h.below bb hB).up (Nat.le_trans hB bb.size)
theorem six_chg (W : World) (b : Nat) (u0 u1 u2 u3 u4 u5 : Value) :
    Chg (fun k => k = b) W ((((((W.setCell ⟨b, 0, none⟩ u0).setCell ⟨b, 1, none⟩ u1).setCell ⟨b, 2, none⟩ u2).setCell ⟨b, 3, none⟩ u3).setCell ⟨b, 4, none⟩ u4).setCell ⟨b, 5, none⟩ u5) :=
  ((((((Chg.refl (fun k => k = b) W).setCell (p := ⟨b, 0, none⟩) (Or.inl rfl) _).setCell (p := ⟨b, 1, none⟩) (Or.inl rfl) _).setCell (p := ⟨b, 2, none⟩) (Or.inl rfl) _).setCell (p := ⟨b, 3, none⟩) (Or.inl rfl) _).setCell (p := ⟨b, 4, none⟩) (Or.inl rfl) _).setCell (p := ⟨b, 5, none⟩) (Or.inl rfl) _
theorem six_below {A W : World} {b : Nat} (h : Below A.heap.size A W) (hb : A.heap.size ≤ b) (u0 u1 u2 u3 u4 u5 : Value) :
    Below A.heap.size A ((((((W.setCell ⟨b, 0, none⟩ u0).setCell ⟨b, 1, none⟩ u1).setCell ⟨b, 2, none⟩ u2).setCell ⟨b, 3, none⟩ u3).setCell ⟨b, 4, none⟩ u4).setCell ⟨b, 5, none⟩ u5) :=
  Below.setCell (p := ⟨b, 5, none⟩) (Below.setCell (p := ⟨b, 4, none⟩) (Below.setCell (p := ⟨b, 3, none⟩) (Below.setCell (p := ⟨b, 2, none⟩) (Below.setCell (p := ⟨b, 1, none⟩) (Below.setCell (p := ⟨b, 0, none⟩) h hb _) hb _) hb _) hb _) hb _) hb _
theorem on_step {W w w' : World} {b m : Nat} {us : List Value} (h : (RowAt w b 0 us ∧ b < w.heap.size) ∧ Loose w b ∧ m ≤ b) (hb : Below W.heap.size W w') (e : W.heap = w.heap) : (RowAt w' b 0 us ∧ b < w'.heap.size) ∧ Loose w' b ∧ m ≤ b := by
  refine ⟨row_step h.1 hb e, fun i => ?_, h.2.2⟩
  have hl : b < W.heap.size := by rw [e]; exact h.1.2
  rw [World.frozen?_of_block (w := W) (hb.block b hl)]
  have := h.2.1 i
  unfold World.frozen? at this ⊢
  rw [e]; exact this
set_option maxRecDepth 100000 in
set_option maxHeartbeats 6400000 in
theorem FnSecure_any (listed : Bool) (v : Value) (sufs : List ByteArray) (sc ho pa : ByteArray) (c : PCookie) (w : World) (hB : Base w) (hS : StrsAt w w.heap.size v sufs) (hl : sufs.length ≤ 9223372036854775807) (hsz : ∀ x ∈ sufs, x.size ≤ 9223372036854775807)
    (h1 : sc.size ≤ 9223372036854775807) (h2 : ho.size ≤ 9223372036854775807) (h3 : pa.size ≤ 9223372036854775807) (hc : CkLen c) (hca : I64 c.maxAge) (hce : I64 c.expires) :
    Calls Tryd.prog 8 #[.bool listed, v, .agg #[.string sc, .string ho, .string pa], .agg (ckCells c).toArray] w fun r w' => r = .returned (.bool true) ∧ Below w.heap.size w w' := by
  have HF4 := fun W => zzFits4_any sc ho pa W h1 h2 h3
  have HF6 := fun W => zzFits6_any c W hc
  unfold ckVal at HF6
  have hal : Below w.heap.size w ((w.alloc (.cells [Value.string sc, .string ho, .string pa].toArray 24)).alloc (.cells (ckCells c).toArray 26)) := two_alloc _ _ _
  have hA : RowAt ((w.alloc (.cells [Value.string sc, .string ho, .string pa].toArray 24)).alloc (.cells (ckCells c).toArray 26)) w.heap.size 0 [Value.string sc, .string ho, .string pa] :=
    (RowAt.new w [Value.string sc, .string ho, .string pa] 24).below ((Below.refl (w.heap.size + 1) _).alloc (by simp) _) (by omega)
  have hC : RowAt ((w.alloc (.cells [Value.string sc, .string ho, .string pa].toArray 24)).alloc (.cells (ckCells c).toArray 26)) (w.heap.size + 1) 0 (ckCells c) := by
    have := RowAt.new (w.alloc (.cells [Value.string sc, .string ho, .string pa].toArray 24)) (ckCells c) 26
    simpa using this
  have hsz2 : ((w.alloc (.cells [Value.string sc, .string ho, .string pa].toArray 24)).alloc (.cells (ckCells c).toArray 26)).heap.size = w.heap.size + 2 := by simp
  obtain ⟨W, hW⟩ : ∃ W, (w.alloc (.cells [Value.string sc, .string ho, .string pa].toArray 24)).alloc (.cells (ckCells c).toArray 26) = W := ⟨_, rfl⟩
  rw [hW] at hal hA hC hsz2
  have hW' : (w.alloc (.cells #[.string sc, .string ho, .string pa] 24)).alloc (.cells #[.string c.name, .string c.value, .string c.domain, .string c.path, .int .i64 c.maxAge, .int .i64 c.expires, .bool c.secure] 26) = W := hW
  clear hW
  have hS1 : StrsAt W w.heap.size v sufs := hS.below hal (Nat.le_refl _)
  have HF1 := zzFits1_any v sufs w.heap.size W hS1 hl hsz
  unfold ckCells
  obtain ⟨a0, a1, a2⟩ := row3 hA
  obtain ⟨y0, y1, y2, y3, y4, y5, y6⟩ := row7 hC
  go_enter Tryd.func8, Tryd.ntmps8
  go_upto_region 1 with (fail)
  try rw [hW']
  clear hW'
  go_cut [25] (fun v25 wx => v25 = .bool (!(fits1 sufs && fits4 sc ho pa && fits6 c)) ∧ Below W.heap.size W wx)
  case first =>
    as_aux_lemma =>
    cases hf1 : fits1 sufs
    · have H1 := Lib.hid hf1
      clear hf1
      go_wp2_with fail
      refine HF1.mono ?_
      rintro r w1 ⟨rfl, rfl⟩
      rw [H1.out]
      go_wp2
      go_meet
      exact ⟨by rw [H1.out]; rfl, Below.refl _ _⟩
    · have H1 := Lib.hid hf1
      clear hf1
      cases h4 : fits4 sc ho pa
      · have H4 := Lib.hid h4
        clear h4
        go_wp2_with fail
        refine HF1.mono ?_
        rintro r w1 ⟨rfl, rfl⟩
        rw [H1.out]
        go_wp2_with fail
        refine (HF4 _).mono ?_
        rintro r w1 ⟨rfl, hb1⟩
        rw [H4.out]
        go_wp2
        go_meet
        exact ⟨by rw [H1.out, H4.out]; rfl, hb1⟩
      · have H4 := Lib.hid h4
        clear h4
        go_wp2_with fail
        refine HF1.mono ?_
        rintro r w1 ⟨rfl, rfl⟩
        rw [H1.out]
        go_wp2_with fail
        refine (HF4 _).mono ?_
        rintro r w1 ⟨rfl, hb1⟩
        rw [H4.out]
        obtain ⟨y0, y1, y2, y3, y4, y5, y6⟩ := row7 (hC.below hb1 (by omega))
        go_wp2_with fail
        refine (HF6 _).mono ?_
        rintro r w2 ⟨rfl, hb2⟩
        go_wp2
        go_meet
        exact ⟨by rw [H1.out, H4.out]; rfl, hb1.trans (hb2.mono hb1.size)⟩
  case rest =>
    obtain ⟨rfl, hb1⟩ := hcut
    obtain ⟨fb, hfb⟩ : ∃ fb, (fits1 sufs && fits4 sc ho pa && fits6 c) = fb := ⟨_, rfl⟩
    rw [hfb]
    have HFB := Lib.hid hfb
    have hs1 := hb1.size
    clear hfb HF4 HF6 HF1 a0 a1 a2 y0 y1 y2 y3 y4 y5 y6
    have hbw := hal.trans (hb1.mono (by omega))
    cases fb
    · as_aux_lemma =>
      go_wp2
      go_returns
      exact ⟨rfl, hbw⟩
    · have hA1 := hA.below hb1 (by omega)
      have hC1 := hC.below hb1 (by omega)
      have hS2 := hS1.below hb1 (by omega)
      obtain ⟨y0, y1, y2, y3, y4, y5, y6⟩ := row7 hC1
      simp only [Nat.zero_add] at y1 y2 y3 y4 y5 y6
      clear hA hC hS1 hS hb1
      go_upto_region 3 with (fail)
      generalize wc = W1 at *
      go_cut [9] (fun v9 wx => v9 = .pointer (some ⟨W1.heap.size, 0, none⟩) ∧ RowAt wx W1.heap.size 0 [Value.string sc, .string ho, .string pa] ∧ Loose wx W1.heap.size ∧ wx.heap.size = W1.heap.size + 1 ∧ Below W1.heap.size W1 wx)
      case first =>
        obtain ⟨a0, a1, a2⟩ := row3 hA1
        simp only [Nat.zero_add] at a1 a2
        go_wp2
        go_meet
        refine ⟨rfl, RowAt.new W1 [Value.string sc, .string ho, .string pa] 24, fun i => by simp [go_sem], by simp, (Below.refl _ _).alloc (Nat.le_refl _) _⟩
      case rest =>
        obtain ⟨rfl, hE1, hL1, hs2, hb2⟩ := hcut
        generalize wc = W2 at *
        have z0 : W2.cell? ⟨W1.heap.size, 0, none⟩ = some (.string sc) := by simpa using hE1.at 0 _ rfl
        have q0 := hL1 0
        clear y0 y1 y2 y3 y4 y5 y6
        go_upto_region 5 with (fail)
        have hE : RowAt (W2.setCell ⟨W1.heap.size, 0, none⟩ (.string httpB)) W1.heap.size 0 [Value.string httpB, .string ho, .string pa] := hE1.set 0 (.string httpB)
        have hs3 : (W2.setCell ⟨W1.heap.size, 0, none⟩ (.string httpB)).heap.size = W1.heap.size + 1 := by simp [hs2]
        have hb3 : Below W1.heap.size W1 (W2.setCell ⟨W1.heap.size, 0, none⟩ (.string httpB)) := Below.setCell (p := ⟨W1.heap.size, 0, none⟩) hb2 (Nat.le_refl _) _
        unfold httpB at hE hs3 hb3
        generalize W2.setCell ⟨W1.heap.size, 0, none⟩ (.string ⟨#[104, 116, 116, 112]⟩) = W3 at *
        have hA3 := hA1.below hb3 (by omega)
        have hC3 := hC1.below hb3 (by omega)
        have hbw3 := hbw.trans (hb3.mono (by omega))
        have hf : (fits1 sufs = true ∧ fits4 sc ho pa = true) ∧ fits6 c = true := by have := HFB.out; simpa using this
        have hfit := fun (sb : ByteArray) (h4 : fits4 sb ho pa = true) => sa_fit (t1 := 2) (t2 := 3) (fits4_web hf.1.2).1 h4 hf.2 ⟨hca, hce⟩ ⟨by unfold I64; omega, by unfold I64; omega⟩
        have hfit0 := hfit sc hf.1.2
        clear hfit
        have HFIT := Lib.hid hfit0
        have hsl := fits1_use hf.1.1
        clear z0 q0 hE1 hL1 hb2 hA1 hC1 hbw HFB hfit0 hf
        have hS3 : StrsAt W3 w.heap.size v sufs := hS2.below hb3 (by omega)
        clear hS2 hb3
        have hlt : w.heap.size + 1 < W3.heap.size := by omega
        have hltA : w.heap.size < W3.heap.size := by omega
        have hltE : W1.heap.size < W3.heap.size := by omega
        go_cut [10] (fun v10 wx => ∃ fb b1, v10 = .pointer (some ⟨fb, 0, none⟩) ∧ (RowAt wx fb 0 (stCells ⟨true, 2, httpsB, ho, pa, [c]⟩ (.slice (some ⟨b1, 0, none⟩) 1 1)) ∧ fb < wx.heap.size) ∧ (RowAt wx b1 0 (ckCells c) ∧ b1 < wx.heap.size) ∧ Below W3.heap.size W3 wx)
        case first =>
          clear hs3
          have HSET := fun W => set_any 2 httpsB ho pa c W
          have HWEB := fun W => web_any sc ho pa W
          unfold SetRes setVal at HSET
          unfold ckCells at HSET
          have BB := Below.refl W3.heap.size W3
          unfold ckCells at hC3
          obtain ⟨a0, a1, a2⟩ := row3 hA3
          obtain ⟨y0, y1, y2, y3, y4, y5, y6⟩ := row7 hC3
          simp only [Nat.zero_add] at a1 a2 y1 y2 y3 y4 y5 y6
          go_region_held3 (fun w' => w'.cell? ⟨w.heap.size, 0, none⟩ = some (.string sc) ∧ w'.cell? ⟨w.heap.size, 1, none⟩ = some (.string ho) ∧ w'.cell? ⟨w.heap.size, 2, none⟩ = some (.string pa) ∧ w'.cell? ⟨w.heap.size + 1, 0, none⟩ = some (.string c.name) ∧ w'.cell? ⟨w.heap.size + 1, 1, none⟩ = some (.string c.value) ∧ w'.cell? ⟨w.heap.size + 1, 2, none⟩ = some (.string c.domain) ∧ w'.cell? ⟨w.heap.size + 1, 3, none⟩ = some (.string c.path) ∧ w'.cell? ⟨w.heap.size + 1, 4, none⟩ = some (.int .i64 c.maxAge) ∧ w'.cell? ⟨w.heap.size + 1, 5, none⟩ = some (.int .i64 c.expires) ∧ w'.cell? ⟨w.heap.size + 1, 6, none⟩ = some (.bool c.secure)) (go_keep)
            (first
              | (go_at_call 18; refine (HWEB _).mono ?_; rintro r w2 ⟨rfl, hb4⟩; (try have RZ := new_step (us := [.bool false, .int .i64 0, .string ⟨#[]⟩, .string ⟨#[]⟩, .string ⟨#[]⟩, .slice none 0 0]) (T := 32) BB hb4 rfl); (first | have BB := below_step BB hb4 rfl rfl rfl rfl | have BB := below_step (Below.alloc BB BB.size (.cells [.bool false, .int .i64 0, .string ⟨#[]⟩, .string ⟨#[]⟩, .string ⟨#[]⟩, .slice none 0 0].toArray 32)) hb4 rfl rfl rfl rfl); obtain ⟨a0, a1, a2⟩ := row3 (hA3.below BB hltA); obtain ⟨y0, y1, y2, y3, y4, y5, y6⟩ := row7 (hC3.below BB hlt))
              | (go_at_call 16; refine (HSET _).mono ?_; rintro r w2 ⟨b1, rfl, hb1, hb2, hb3, hb4⟩; (first | (have hbn := Nat.lt_of_lt_of_le RZ.1.2 hb1; have RZ := on_step RZ hb4 rfl) | (have hbn := Nat.lt_of_lt_of_le (new_lt (us := [.bool false, .int .i64 0, .string ⟨#[]⟩, .string ⟨#[]⟩, .string ⟨#[]⟩, .slice none 0 0]) (T := 32) rfl) hb1; have RZ := new_step (us := [.bool false, .int .i64 0, .string ⟨#[]⟩, .string ⟨#[]⟩, .string ⟨#[]⟩, .slice none 0 0]) (T := 32) BB hb4 rfl) | skip); (first | have BB := below_step BB hb4 rfl rfl rfl rfl | have BB := below_step (Below.alloc BB BB.size (.cells [.bool false, .int .i64 0, .string ⟨#[]⟩, .string ⟨#[]⟩, .string ⟨#[]⟩, .slice none 0 0].toArray 32)) hb4 rfl rfl rfl rfl); have R1 := And.intro hb3 hb2; (try (obtain ⟨k0, k1, k2, k3, k4, k5⟩ := row6 RZ.1.1; simp only [Nat.zero_add] at k1 k2 k3 k4 k5; have l0 := RZ.2.1 0; have l1 := RZ.2.1 1; have l2 := RZ.2.1 2; have l3 := RZ.2.1 3; have l4 := RZ.2.1 4; have l5 := RZ.2.1 5; have n1 := Nat.ne_of_lt (Nat.lt_of_lt_of_le hltA RZ.2.2); have n2 := Nat.ne_of_lt (Nat.lt_of_lt_of_le hlt RZ.2.2); have n3 := n1.symm; have n4 := n2.symm)); obtain ⟨a0, a1, a2⟩ := row3 (hA3.below BB hltA); obtain ⟨y0, y1, y2, y3, y4, y5, y6⟩ := row7 (hC3.below BB hlt)))
          · go_wp2
            go_meet
            refine ⟨_, _, rfl, ⟨RowAt.new _ (stCells ⟨true, 2, httpsB, ho, pa, [c]⟩ _) 32, by simp⟩, ⟨R1.1.below ((Below.refl _ _).alloc (Nat.le_refl _) _) R1.2, by have := R1.2; simp; omega⟩, BB.alloc BB.size _⟩
          · go_wp2
            go_meet
            refine ⟨_, _, rfl, ⟨(((((RZ.1.1.set 0 (.bool true)).set 1 (.int .i64 2)).set 2 (.string httpsB)).set 3 (.string ho)).set 4 (.string pa)).set 5 (.slice (some ⟨b1, 0, none⟩) 1 1), by have := RZ.1.2; simp; omega⟩, ⟨R1.1.chg (six_chg _ _ _ _ _ _ _ _) R1.2 (by omega), by have := R1.2; simp; omega⟩, six_below BB RZ.2.2 _ _ _ _ _ _⟩
          · go_wp2
            go_meet
            refine ⟨_, _, rfl, ⟨(((((RZ.1.1.set 0 (.bool true)).set 1 (.int .i64 2)).set 2 (.string httpsB)).set 3 (.string ho)).set 4 (.string pa)).set 5 (.slice (some ⟨b1, 0, none⟩) 1 1), by have := RZ.1.2; simp; omega⟩, ⟨R1.1.chg (six_chg _ _ _ _ _ _ _ _) R1.2 (by omega), by have := R1.2; simp; omega⟩, six_below BB RZ.2.2 _ _ _ _ _ _⟩
        case rest =>
          obtain ⟨fb, b1, rfl, hF, hR, hb5⟩ := hcut
          have hs5 := hb5.size
          have hA5 := hA3.below hb5 hltA
          have hE5 := hE.below hb5 hltE
          have hC5 := hC3.below hb5 hlt
          have hS5 : StrsAt wc w.heap.size v sufs := hS3.below hb5 (by omega)
          have hbw5 := hbw3.trans (hb5.mono (by omega))
          have hB5 := hB.below hbw5
          clear hA3 hE hC3 hS3 hbw3 hb5
          generalize wc = W5 at *
          have hwB : w.heap.size ≤ W5.heap.size := by omega
          have hltA : w.heap.size < W5.heap.size := by omega
          have hltC : w.heap.size + 1 < W5.heap.size := by omega
          have hltE : W1.heap.size < W5.heap.size := by omega
          have hltF := hF.2
          obtain ⟨hF5, _⟩ := hF
          unfold stCells at hF5
          obtain ⟨vb, hvb⟩ : ∃ vb, validB listed sufs (saSteps 2 3 httpsB ho pa sc ho pa c) = vb := ⟨_, rfl⟩
          have HVB := Lib.hid hvb
          have HVAL := fun (X : World) (sb : Nat) (hs : StrsAt X X.heap.size v sufs) (hst : StepsAt X X.heap.size (.slice (some ⟨sb, 0, none⟩) 2 2) (saSteps 2 3 httpsB ho pa sc ho pa c)) =>
            Valid_any listed v (.slice (some ⟨sb, 0, none⟩) 2 2) sufs (saSteps 2 3 httpsB ho pa sc ho pa c) X.heap.size X hs hst (Nat.le_refl _) hsl.1 hsl.2 (by simp [saSteps]) HFIT.out
          rw [hvb] at HVAL
          clear hvb
          go_upto_region 6 with (fail)
          go_cut [39] (fun v39 wx => ∃ q, v39 = .bool q ∧ Below W5.heap.size W5 wx ∧ (q = false → vb = true))
          case first =>
            clear hs5 hs1
            have HASK := fun W => ask_any 3 sc ho pa W
            unfold askVal at HASK
            have BB := Below.refl W5.heap.size W5
            have R1 := hR
            obtain ⟨a0, a1, a2⟩ := row3 hA5
            obtain ⟨f0, f1, f2, f3, f4, f5⟩ := row6 hF5
            simp only [Nat.zero_add] at a1 a2 f1 f2 f3 f4 f5
            go_region_held3 (fun w' => w'.cell? ⟨w.heap.size, 0, none⟩ = some (.string sc) ∧ w'.cell? ⟨w.heap.size, 1, none⟩ = some (.string ho) ∧ w'.cell? ⟨w.heap.size, 2, none⟩ = some (.string pa) ∧ w'.cell? ⟨fb, 0, none⟩ = some (.bool true) ∧ w'.cell? ⟨fb, 1, none⟩ = some (.int .i64 2) ∧ w'.cell? ⟨fb, 2, none⟩ = some (.string httpsB) ∧ w'.cell? ⟨fb, 3, none⟩ = some (.string ho) ∧ w'.cell? ⟨fb, 4, none⟩ = some (.string pa) ∧ w'.cell? ⟨fb, 5, none⟩ = some (.slice (some ⟨b1, 0, none⟩) 1 1)) (go_keep)
              (first
                | (go_at_call 17; refine (HASK _).mono ?_; rintro r w2 ⟨rfl, hb4⟩; have BB := below_step BB hb4 rfl rfl rfl rfl; obtain ⟨a0, a1, a2⟩ := row3 (hA5.below BB hltA); obtain ⟨f0, f1, f2, f3, f4, f5⟩ := row6 (hF5.below BB hltF); have R1 := row_step R1 hb4 rfl)
                | (go_at_call 19; refine (HVAL _ _ (strs_now hS5 hwB (below_step (Below.alloc BB BB.size _) (Below.refl _ _) (by rfl) (by rfl) (by rfl) (by rfl))) (sa_args R1 (by rfl))).mono ?_; rintro r w2 ⟨rfl, hb4⟩; have BB := below_step (Below.alloc BB BB.size _) hb4 rfl rfl rfl rfl; obtain ⟨a0, a1, a2⟩ := row3 (hA5.below BB hltA); obtain ⟨f0, f1, f2, f3, f4, f5⟩ := row6 (hF5.below BB hltF)))
            all_goals
              go_wp2
              go_meet
              exact ⟨!vb, rfl, below_step BB (Below.refl _ _) rfl rfl rfl rfl, fun h => by simpa using h⟩
          case rest =>
            obtain ⟨q, rfl, hb6, hq⟩ := hcut
            have hs6 := hb6.size
            have hA6 := hA5.below hb6 hltA
            have hE6 := hE5.below hb6 hltE
            have hC6 := hC5.below hb6 hltC
            have hF6 := hF5.below hb6 hltF
            have hS6 : StrsAt wc w.heap.size v sufs := hS5.below hb6 hwB
            have hbw6 := hbw5.trans (hb6.mono (by omega))
            have hB6 := hB.below hbw6
            have hR6 := row_step hR hb6 rfl
            clear hA5 hE5 hC5 hF5 hS5 hbw5 hb6 HVAL hR hB5
            generalize wc = W6 at *
            cases q
            · obtain rfl := hq rfl
              clear hq
              have hg := valid_good HVB.out HFIT.out
              have g1 := hg.1 ⟨true, 2, httpsB, ho, pa, [c]⟩ (by simp [saSteps])
              have g2 := hg.1 ⟨false, 3, sc, ho, pa, []⟩ (by simp [saSteps])
              have hok : ∀ sch, ∀ s ∈ saSteps 2 3 httpsB ho pa sch ho pa c, StepOK s := fun sch s hs => by
                simp only [saSteps, List.mem_cons, List.not_mem_nil, or_false] at hs
                rcases hs with rfl | rfl
                · exact g1.ok
                · exact ⟨g2.ok.host, g2.ok.tm, g2.ok.ho, g2.ok.pa, g2.ok.len, fun x hx => by cases hx⟩
              have hargs := fun (sch : ByteArray) (X : World) (sb : Nat) (hs : StrsAt X X.heap.size v sufs) (hst : StepsAt X X.heap.size (.slice (some ⟨sb, 0, none⟩) 2 2) (saSteps 2 3 httpsB ho pa sch ho pa c)) =>
                (⟨hs, hst, hsl, hok sch, by simp [saSteps], fun s hs => by
                  simp only [saSteps, List.mem_cons, List.not_mem_nil, or_false] at hs
                  rcases hs with rfl | rfl <;> simp⟩ : RunArgs X sufs (saSteps 2 3 httpsB ho pa sch ho pa c) v (.slice (some ⟨sb, 0, none⟩) 2 2))
              have hpd : plainDomB listed (lst c.domain) = true := by
                have := g1.cks c (by simp)
                unfold ckOK at this
                simp only [Bool.and_eq_true] at this
                exact this.1.1.1.2
              have hfar : ∀ p, domTy (pslOf listed sufs) (str (hostB (lst ho))) c.domain = some p → nearB p.1 = false := fun p hp => dom_far g1.host hpd hp
              have HLAW := Lib.hid (fun (o1 o2 : List (List Ent)) r1 r2 => law_secure (psl := pslOf listed sufs) (ho := ho) (pa := pa) (c := c) (o1 := o1) (o2 := o2) hfar r1 r2)
              have hrl := fun (o : List (List Ent)) (h : RunRel (pslOf listed sufs) noJar 0 (saSteps 2 3 httpsB ho pa httpsB ho pa c) o) => run_len h (fun s hs => ⟨hok httpsB s hs, by simp only [saSteps, List.mem_cons, List.not_mem_nil, or_false] at hs; rcases hs with rfl | rfl <;> simp⟩) (by simp [saSteps])
              have HRL := Lib.hid hrl
              have HARGS := Lib.hid hargs
              clear hargs hok g1 g2 hg hpd hfar hrl
              have hltA : w.heap.size < W6.heap.size := by omega
              have hltC : w.heap.size + 1 < W6.heap.size := by omega
              have hltE : W1.heap.size < W6.heap.size := by omega
              have hltF : fb < W6.heap.size := by omega
              have hwB : w.heap.size ≤ W6.heap.size := by omega
              go_upto_region 8 with (fail)
              go_cut [11] (fun v11 wx => ∃ u o, u = v11 ∧ RunRel (pslOf listed sufs) noJar 0 (saSteps 2 3 httpsB ho pa httpsB ho pa c) o ∧ PairsAt wx (fun _ => True) u ((pairsOf o).getLastD []) ∧ Below W6.heap.size W6 wx)
              case first =>
                clear hs5 hs6 hs1
                have HASK := fun W => ask_any 3 httpsB ho pa W
                have HWEB := fun W => web_any sc ho pa W
                unfold askVal at HASK
                have BB := Below.refl W6.heap.size W6
                have R1 := hR6
                obtain ⟨a0, a1, a2⟩ := row3 hA6
                obtain ⟨f0, f1, f2, f3, f4, f5⟩ := row6 hF6
                simp only [Nat.zero_add] at a1 a2 f1 f2 f3 f4 f5
                go_region_held3 (fun w' => w'.cell? ⟨w.heap.size, 0, none⟩ = some (.string sc) ∧ w'.cell? ⟨w.heap.size, 1, none⟩ = some (.string ho) ∧ w'.cell? ⟨w.heap.size, 2, none⟩ = some (.string pa) ∧ w'.cell? ⟨fb, 0, none⟩ = some (.bool true) ∧ w'.cell? ⟨fb, 1, none⟩ = some (.int .i64 2) ∧ w'.cell? ⟨fb, 2, none⟩ = some (.string httpsB) ∧ w'.cell? ⟨fb, 3, none⟩ = some (.string ho) ∧ w'.cell? ⟨fb, 4, none⟩ = some (.string pa) ∧ w'.cell? ⟨fb, 5, none⟩ = some (.slice (some ⟨b1, 0, none⟩) 1 1)) (go_keep)
                  (first
                    | (go_at_call 18; refine (HWEB _).mono ?_; rintro r w2 ⟨rfl, hb4⟩; have BB := below_step BB hb4 rfl rfl rfl rfl; obtain ⟨a0, a1, a2⟩ := row3 (hA6.below BB hltA); obtain ⟨f0, f1, f2, f3, f4, f5⟩ := row6 (hF6.below BB hltF); have R1 := row_step R1 hb4 rfl)
                    | (go_at_call 17; refine (HASK _).mono ?_; rintro r w2 ⟨rfl, hb4⟩; have BB := below_step BB hb4 rfl rfl rfl rfl; obtain ⟨a0, a1, a2⟩ := row3 (hA6.below BB hltA); obtain ⟨f0, f1, f2, f3, f4, f5⟩ := row6 (hF6.below BB hltF); have R1 := row_step R1 hb4 rfl)
                    | (go_at_call 20; refine (last_any listed v _ sufs _ _ (HARGS.out httpsB _ _ (strs_now hS6 hwB (below_step (Below.alloc BB BB.size _) (Below.refl _ _) (by rfl) (by rfl) (by rfl) (by rfl))) (sa_args R1 (by rfl))) (hB6.below (below_step (Below.alloc BB BB.size _) (Below.refl _ _) (by rfl) (by rfl) (by rfl) (by rfl)))).mono ?_; rintro r w2 ⟨u, o, rfl, hrel, hp, hb4⟩; have BB := below_step (Below.alloc BB BB.size _) hb4 rfl rfl rfl rfl; obtain ⟨a0, a1, a2⟩ := row3 (hA6.below BB hltA); obtain ⟨f0, f1, f2, f3, f4, f5⟩ := row6 (hF6.below BB hltF)))
                all_goals
                  go_wp2
                  go_meet
                  exact ⟨u, o, rfl, hrel, hp.to (fun _ _ _ => trivial), BB⟩
              case rest =>
                obtain ⟨u1, o1, rfl, hrel1, hp1, hb7⟩ := hcut
                have hs7 := hb7.size
                have hE7 := hE6.below hb7 hltE
                have hC7 := hC6.below hb7 hltC
                have hF7 := hF6.below hb7 hltF
                have hS7 : StrsAt wc w.heap.size v sufs := hS6.below hb7 hwB
                have hbw7 := hbw6.trans (hb7.mono (by omega))
                have hB7 := hB.below hbw7
                have hR7 := row_step hR6 hb7 rfl
                clear hA6 hE6 hC6 hF6 hS6 hbw6 hb7 hR6 hB6
                generalize wc = W7 at *
                have hltC : w.heap.size + 1 < W7.heap.size := by omega
                have hltE : W1.heap.size < W7.heap.size := by omega
                have hltF : fb < W7.heap.size := by omega
                have hwB : w.heap.size ≤ W7.heap.size := by omega
                go_upto_region 9 with (fail)
                go_cut [12] (fun v12 wx => ∃ u o, u = v12 ∧ RunRel (pslOf listed sufs) noJar 0 (saSteps 2 3 httpsB ho pa httpB ho pa c) o ∧ PairsAt wx (fun _ => True) u ((pairsOf o).getLastD []) ∧ Below W7.heap.size W7 wx)
                case first =>
                  clear hs5 hs6 hs7 hs1
                  have HASK := fun W => ask_any 3 ⟨#[104, 116, 116, 112]⟩ ho pa W
                  unfold askVal at HASK
                  have BB := Below.refl W7.heap.size W7
                  have R1 := hR7
                  obtain ⟨e0, e1, e2⟩ := row3 hE7
                  obtain ⟨f0, f1, f2, f3, f4, f5⟩ := row6 hF7
                  simp only [Nat.zero_add] at e1 e2 f1 f2 f3 f4 f5
                  go_region_held3 (fun w' => w'.cell? ⟨W1.heap.size, 0, none⟩ = some (.string ⟨#[104, 116, 116, 112]⟩) ∧ w'.cell? ⟨W1.heap.size, 1, none⟩ = some (.string ho) ∧ w'.cell? ⟨W1.heap.size, 2, none⟩ = some (.string pa) ∧ w'.cell? ⟨fb, 0, none⟩ = some (.bool true) ∧ w'.cell? ⟨fb, 1, none⟩ = some (.int .i64 2) ∧ w'.cell? ⟨fb, 2, none⟩ = some (.string httpsB) ∧ w'.cell? ⟨fb, 3, none⟩ = some (.string ho) ∧ w'.cell? ⟨fb, 4, none⟩ = some (.string pa) ∧ w'.cell? ⟨fb, 5, none⟩ = some (.slice (some ⟨b1, 0, none⟩) 1 1)) (go_keep)
                    (first
                      | (go_at_call 17; refine (HASK _).mono ?_; rintro r w2 ⟨rfl, hb4⟩; have BB := below_step BB hb4 rfl rfl rfl rfl; obtain ⟨e0, e1, e2⟩ := row3 (hE7.below BB hltE); obtain ⟨f0, f1, f2, f3, f4, f5⟩ := row6 (hF7.below BB hltF); have R1 := row_step R1 hb4 rfl)
                      | (go_at_call 20; refine (last_any listed v _ sufs _ _ (HARGS.out httpB _ _ (strs_now hS7 hwB (below_step (Below.alloc BB BB.size _) (Below.refl _ _) (by rfl) (by rfl) (by rfl) (by rfl))) (sa_args R1 (by rfl))) (hB7.below (below_step (Below.alloc BB BB.size _) (Below.refl _ _) (by rfl) (by rfl) (by rfl) (by rfl)))).mono ?_; rintro r w2 ⟨u, o, rfl, hrel, hp, hb4⟩; have BB := below_step (Below.alloc BB BB.size _) hb4 rfl rfl rfl rfl; obtain ⟨e0, e1, e2⟩ := row3 (hE7.below BB hltE); obtain ⟨f0, f1, f2, f3, f4, f5⟩ := row6 (hF7.below BB hltF)))
                  all_goals
                    go_wp2
                    go_meet
                    exact ⟨u, o, rfl, hrel, hp.to (fun _ _ _ => trivial), BB⟩
                case rest =>
                  obtain ⟨u2, o2, rfl, hrel2, hp2, hb8⟩ := hcut
                  have hs8 := hb8.size
                  have hC8 := hC7.below hb8 hltC
                  have hp1' := hp1.below hb8
                  have hbw8 := hbw7.trans (hb8.mono (by omega))
                  have hB8 := hB.below hbw8
                  clear hE7 hC7 hF7 hS7 hbw7 hb8 hR7 hB7 hp1 HARGS
                  generalize wc = W8 at *
                  obtain ⟨L1, L2, rfl, rfl, hsec, hnot⟩ := HLAW.out o1 o2 hrel1 hrel2
                  have hln := HRL.out [L1] hrel1 L1 (by simp)
                  have y6 : W8.cell? ⟨w.heap.size + 1, 6, none⟩ = some (.bool c.secure) := by simpa using hC8.at 6 _ rfl
                  have el1 : (pairsOf [L1]).getLastD [] = L1.map pairOf := rfl
                  have el2 : (pairsOf [L2]).getLastD [] = L2.map pairOf := rfl
                  rw [el1] at hp1'
                  rw [el2] at hp2
                  clear hC8 hrel1 hrel2 el1 el2 HLAW
                  go_upto_region 10 with (fail)
                  generalize c.secure = sb at *
                  cases sb
                  · have e := hnot rfl
                    subst e
                    clear hsec hnot
                    have HEQ := eqPair_any hp1' hp2 hln
                    rw [decide_eq_true rfl] at HEQ
                    clear hp1' hp2
                    go_wp2_with fail
                    refine HEQ.mono ?_
                    rintro r w9 ⟨rfl, hb9⟩
                    have HAL := alive_any w9 (hB8.below hb9)
                    have hbw9 := hbw8.trans (hb9.mono hbw8.size)
                    clear HEQ
                    go_wp2_with fail
                    refine HAL.mono ?_
                    rintro r w10 ⟨rfl, hb10⟩
                    go_wp2
                    go_returns
                    exact ⟨rfl, hbw9.trans (hb10.mono hbw9.size)⟩
                  · have e := hsec rfl
                    subst e
                    clear hsec hnot hp1'
                    obtain ⟨ao, b, off, cap, rfl, _, _⟩ := hp2
                    have hn : (List.map pairOf ([] : List Ent)).length = 0 := rfl
                    rw [hn]
                    have HAL := alive_any W8 hB8
                    clear hn
                    go_wp2_with fail
                    refine HAL.mono ?_
                    rintro r w10 ⟨rfl, hb10⟩
                    go_wp2
                    go_returns
                    exact ⟨rfl, hbw8.trans (hb10.mono hbw8.size)⟩
            · go_wp2
              go_returns
              exact ⟨rfl, hbw6⟩
end Go.Proofs.YtcofblepdfjhjaaDoor

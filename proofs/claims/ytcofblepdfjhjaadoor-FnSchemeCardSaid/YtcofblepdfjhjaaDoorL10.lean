/- The law FnScheme: its walk. -/
import Derived.Test.YtcofblepdfjhjaaDoorStepAll
import Derived.Test.YtcofblepdfjhjaaDoorLawsC
namespace Go.Proofs.YtcofblepdfjhjaaDoor
open Go.RowKit
theorem law_same {psl : Option (List ByteArray)} {ss : List PStep} {s1 a : PStep} {o1 o2 : List (List Ent)} (h1 : s1.set = true) (ha : a.set = false) (hs1 : isWeb s1.scheme = false)
    (r1 : RunRel psl noJar 0 (ss ++ [s1, a]) o1) (r2 : RunRel psl noJar 0 (ss ++ [a]) o2) : (pairsOf o1).getLastD [] = (pairsOf o2).getLastD [] := by
  rw [show ss ++ [s1, a] = (ss ++ [s1]) ++ [a] by simp] at r1
  obtain ⟨p1, L1, rfl, g1⟩ := r1.last ha
  obtain ⟨p2, L2, rfl, g2⟩ := r2.last ha
  rw [endJ_app, endJ, if_pos h1, endJ, (setJ_off hs1).1] at g1
  have e := g1.unique g2
  subst e
  rw [pairs_end, pairs_end]
theorem law_none {psl : Option (List ByteArray)} {ss : List PStep} {b : PStep} {o3 : List (List Ent)} (hb : b.set = false) (hbs : isWeb b.scheme = false) (r3 : RunRel psl noJar 0 (ss ++ [b]) o3) : (pairsOf o3).getLastD [] = [] := by
  obtain ⟨p3, L3, rfl, g3⟩ := r3.last hb
  unfold AskL at g3
  rw [if_pos hbs] at g3
  subst g3
  rw [pairs_end]
  rfl
/-- A block that is laid behind a row of steps is none of its own. -/
theorem own_ne_at {w W : World} {base b1 : Nat} {u : Value} {L : List (PStep × Value)} (h : OwnS w base u L) (e : Same w W) (hb : W.heap.size ≤ b1) : ∀ g, u.ownBlock = some g → g ≠ b1 := own_ne_new h (Nat.le_trans e.below.size hb)
set_option maxRecDepth 100000 in
set_option maxHeartbeats 6400000 in
theorem FnScheme_any (listed : Bool) (v : Value) (sufs : List ByteArray) (vs : Value) (ss : List PStep) (sch : ByteArray) (c : PCookie) (w : World) (hB : Base w) (hS : StrsAt w w.heap.size v sufs) (hl : sufs.length ≤ 9223372036854775807) (hsz : ∀ x ∈ sufs, x.size ≤ 9223372036854775807)
    (hT : StepsAt w w.heap.size vs ss) (hok : SliceOK vs) (hls : ss.length ≤ 9223372036854775807) (hw1 : ∀ x ∈ ss, StLen x) (hw2 : ∀ s ∈ ss, I64 s.tm ∧ ∀ c ∈ s.cookies, I64 c.maxAge ∧ I64 c.expires)
    (hsch : sch.size ≤ 9223372036854775807) (hc : CkLen c) (hca : I64 c.maxAge) (hce : I64 c.expires) :
    Calls Tryd.prog 10 #[.bool listed, v, vs, .string sch, .agg (ckCells c).toArray] w fun r w' => r = .returned (.bool true) ∧ Below w.heap.size w w' := by
  have HF6 := fun W => zzFits6_any c W hc
  unfold ckVal at HF6
  have HW2 := Lib.hid hw2
  obtain ⟨W, hW⟩ : ∃ W, w.alloc (.cells #[.string c.name, .string c.value, .string c.domain, .string c.path, .int .i64 c.maxAge, .int .i64 c.expires, .bool c.secure] 26) = W := ⟨_, rfl⟩
  have hal : Below w.heap.size w W := by rw [← hW]; exact (Below.refl _ _).alloc (Nat.le_refl _) _
  have hC : RowAt W w.heap.size 0 (ckCells c) := by rw [← hW]; exact RowAt.new w (ckCells c) 26
  have hszW : W.heap.size = w.heap.size + 1 := by rw [← hW]; simp
  have hS1 : StrsAt W w.heap.size v sufs := hS.below hal (Nat.le_refl _)
  have hT1 := hT.below hal (Nat.le_refl _)
  have HF1 := zzFits1_any v sufs w.heap.size W hS1 hl hsz
  have HF2 := fun X (hh : StepsAt X w.heap.size vs ss) (hle : w.heap.size ≤ X.heap.size) => zzFits2_any vs ss w.heap.size X hh hle hls hw1
  obtain ⟨ao, cap, rfl, hcap, hnil⟩ := hok.form hT
  unfold ckCells
  obtain ⟨y0, y1, y2, y3, y4, y5, y6⟩ := row7 hC
  clear hw1 hw2
  go_enter Tryd.func10, Tryd.ntmps10
  go_upto_region 1 with (fail)
  try rw [hW]
  clear hW
  go_cut [33] (fun v33 wx => v33 = .bool (!(fits1 sufs && fits2 ss && decide (sch.size ≤ 2147483647) && fits6 c)) ∧ Below W.heap.size W wx)
  case first =>
    as_aux_lemma =>
    cases hf1 : fits1 sufs
    · have H1 := Lib.hid hf1
      clear hf1
      go_wp2_with fail
      refine HF1.mono ?_
      rintro r w1 ⟨rfl, rfl⟩
      rw [H1.out]
      go_wp2
      go_meet
      exact ⟨by rw [H1.out]; rfl, Below.refl _ _⟩
    · have H1 := Lib.hid hf1
      clear hf1
      cases hf2 : fits2 ss
      · have H2 := Lib.hid hf2
        clear hf2
        go_wp2_with fail
        refine HF1.mono ?_
        rintro r w1 ⟨rfl, rfl⟩
        rw [H1.out]
        go_wp2_with fail
        refine (HF2 _ hT1 (by omega)).mono ?_
        rintro r w1 ⟨rfl, hb1⟩
        rw [H2.out]
        go_wp2
        go_meet
        exact ⟨by rw [H1.out, H2.out]; rfl, hb1⟩
      · have H2 := Lib.hid hf2
        clear hf2
        go_wp2_with fail
        refine HF1.mono ?_
        rintro r w1 ⟨rfl, rfl⟩
        rw [H1.out]
        go_wp2_with fail
        refine (HF2 _ hT1 (by omega)).mono ?_
        rintro r w1 ⟨rfl, hb1⟩
        rw [H2.out]
        obtain ⟨y0, y1, y2, y3, y4, y5, y6⟩ := row7 (hC.below hb1 (by omega))
        by_cases hlv : sch.size ≤ 2147483647
        · go_wp2_with fail
          refine (HF6 _).mono ?_
          rintro r w2 ⟨rfl, hb2⟩
          go_wp2
          go_meet
          exact ⟨by rw [H1.out, H2.out, decide_eq_true hlv, decide_eq_false (show ¬ (2147483647 : Int) < sch.size by omega)]; rfl, hb1.trans (hb2.mono hb1.size)⟩
        · go_wp2
          go_meet
          exact ⟨by rw [H1.out, H2.out, decide_eq_false hlv]; first | (simp; done) | (simp; omega), hb1⟩
  case rest =>
    obtain ⟨rfl, hb1⟩ := hcut
    obtain ⟨fb, hfb⟩ : ∃ fb, (fits1 sufs && fits2 ss && decide (sch.size ≤ 2147483647) && fits6 c) = fb := ⟨_, rfl⟩
    rw [hfb]
    have HFB := Lib.hid hfb
    have hs1 := hb1.size
    clear hfb HF6 HF1 HF2 y0 y1 y2 y3 y4 y5 y6
    have hbw := hal.trans (hb1.mono (by omega))
    generalize wc = W1 at *
    cases fb
    · as_aux_lemma =>
      go_wp2
      go_returns
      exact ⟨rfl, hbw⟩
    · have hC1 := hC.below hb1 (by omega)
      have hS2 := hS1.below hb1 (by omega)
      have hT2 := hT1.below hb1 (by omega)
      have hf : ((fits1 sufs = true ∧ fits2 ss = true) ∧ sch.size ≤ 2147483647) ∧ fits6 c = true := by have := HFB.out; simpa using this
      have hsl := fits1_use hf.1.1.1
      obtain ⟨hsn, hfit⟩ := fits2_use hf.1.1.2 HW2.out
      clear HFB HW2 hS hT hS1 hT1 hC hal hb1
      go_upto_region 3 with (fail)
      go_cut [44] (fun v44 wx => ∃ q, v44 = .bool q ∧ W1 = wx ∧ (q = false → isWeb sch = false ∧ 0 < ss.length))
      case first =>
        by_cases e1 : sch = ⟨#[104, 116, 116, 112]⟩
        · subst e1
          go_wp2
          go_meet
          exact ⟨true, rfl, rfl, fun h => by cases h⟩
        · by_cases e2 : sch = ⟨#[104, 116, 116, 112, 115]⟩
          · subst e2
            clear e1
            go_wp2
            go_meet
            exact ⟨true, rfl, rfl, fun h => by cases h⟩
          · have f1 : (sch.toList == [104, 116, 116, 112]) = false := by rw [toList_lst, beq_eq_false_iff_ne]; exact fun e => e1 (lst_inj e)
            have f2 : (sch.toList == [104, 116, 116, 112, 115]) = false := by rw [toList_lst, beq_eq_false_iff_ne]; exact fun e => e2 (lst_inj e)
            have hweb : isWeb sch = false := by
              cases h : isWeb sch
              · rfl
              · rcases (web_iff sch).1 h with h | h
                · exact absurd h e1
                · exact absurd h e2
            have HWEB := Lib.hid hweb
            clear e1 e2 hweb
            by_cases h0 : ss.length = 0
            · have f3 : ((ss.length : Int) == 0) = true := by rw [h0]; rfl
              clear h0
              go_wp2
              go_meet
              exact ⟨true, rfl, rfl, fun h => by cases h⟩
            · have f3 : ((ss.length : Int) == 0) = false := beq_eq_false_iff_ne.2 (by omega)
              have hp : 0 < ss.length := by omega
              clear h0
              go_wp2
              go_meet
              exact ⟨false, rfl, rfl, fun _ => ⟨HWEB.out, hp⟩⟩
      case rest =>
        obtain ⟨q, rfl, rfl, hq⟩ := hcut
        cases q
        · obtain ⟨hweb, hpos⟩ := hq rfl
          have HWEB := Lib.hid hweb
          clear hq hweb
          obtain ⟨cv, hs, hcv⟩ := hT2.ex
          obtain ⟨ao', b, off, cap1, hv, ha, hcells⟩ := hs.ex
          injection hv with e1 e2 e3
          obtain ⟨ha1, hltb⟩ := ha hpos
          rw [ha1] at e1
          subst e1
          have hek : ss[ss.length - 1]? = some ss[ss.length - 1] := List.getElem?_eq_getElem (by omega)
          have hrow := hcells (ss.length - 1) (by omega)
          rw [hek] at hrow
          have hem : ss[ss.length - 1] ∈ ss := List.getElem_mem _
          generalize ss[ss.length - 1] = e at *
          obtain ⟨uo, _, _, ucap, hue, _⟩ := (hcv (ss.length - 1) e hek).ex
          generalize e.cookies.length = un at hue
          obtain ⟨ue, hue2⟩ : ∃ ue, Value.slice uo un ucap = ue := ⟨_, rfl⟩
          rw [hue2] at hue
          have hrow2 : RowAt W1 b (off + (ss.length - 1) * 6) (stCells e (.slice uo un ucap)) := by rw [hue2, ← hue]; exact hrow
          subst hue2
          clear hrow hue hcells hs hcv ha e2 e3 ha1
          have hwr : IntKind.i64.wrap ((ss.length : Int) - 1) = ((ss.length - 1 : Nat) : Int) := by rw [IntWalk.i64_in _ (by omega)]; omega
          have hix : ((ss.length - 1 : Nat) : Int) < (ss.length : Int) := by omega
          obtain ⟨x0, x1, x2, x3, x4, x5⟩ := row6 hrow2
          go_upto_region 5 with (fail)
          go_cut [11] (fun v11 wx => v11 = .pointer (some ⟨W1.heap.size, 0, none⟩) ∧ RowAt wx W1.heap.size 0 (stCells e (.slice uo un ucap)) ∧ wx.heap.size = W1.heap.size + 1 ∧ Below W1.heap.size W1 wx)
          case first =>
            generalize ss.length - 1 = k at *
            go_wp2
            go_meet
            exact ⟨rfl, RowAt.new W1 (stCells e (.slice uo un ucap)) 32, by simp, (Below.refl _ _).alloc (Nat.le_refl _) _⟩
          case rest =>
            obtain ⟨rfl, hE, hs2, hb2⟩ := hcut
            have hC2 := hC1.below hb2 (by omega)
            have hS3 : StrsAt wc w.heap.size v sufs := hS2.below hb2 (by omega)
            have hT3 := hT2.below hb2 (by omega)
            have hbw2 := hbw.trans (hb2.mono (by omega))
            clear x0 x1 x2 x3 x4 x5 hrow2 hwr hix hb2 hS2 hT2 hC1 hbw hltb
            generalize wc = W2 at *
            have hlt12 : W1.heap.size < W2.heap.size := by omega
            clear hs2
            obtain ⟨x0, x1, x2, x3, x4, x5⟩ := row6 hE
            simp only [Nat.zero_add] at x1 x2 x3 x4 x5
            go_upto_region 6 with (fail)
            go_cut [12] (fun v12 wx => v12 = .pointer (some ⟨W2.heap.size, 0, none⟩) ∧ RowAt wx W2.heap.size 0 [.string e.scheme, .string e.host, .string e.path] ∧ Loose wx W2.heap.size ∧ wx.heap.size = W2.heap.size + 1 ∧ Below W2.heap.size W2 wx)
            case first =>
              go_wp2
              go_meet
              exact ⟨rfl, RowAt.new W2 [.string e.scheme, .string e.host, .string e.path] 24, fun i => by simp [go_sem], by simp, (Below.refl _ _).alloc (Nat.le_refl _) _⟩
            case rest =>
              obtain ⟨rfl, hO, hL3, hs3, hb3⟩ := hcut
              generalize wc = W3 at *
              have z0 : W3.cell? ⟨W2.heap.size, 0, none⟩ = some (.string e.scheme) := by simpa using hO.at 0 _ rfl
              have q0 := hL3 0
              clear x0 x1 x2 x3 x4 x5
              go_upto_region 8 with (fail)
              have hO6 : RowAt (W3.setCell ⟨W2.heap.size, 0, none⟩ (.string sch)) W2.heap.size 0 [.string sch, .string e.host, .string e.path] := hO.set 0 (.string sch)
              have hs6 : (W3.setCell ⟨W2.heap.size, 0, none⟩ (.string sch)).heap.size = W2.heap.size + 1 := by simp [hs3]
              have hb6 : Below W2.heap.size W2 (W3.setCell ⟨W2.heap.size, 0, none⟩ (.string sch)) := Below.setCell (p := ⟨W2.heap.size, 0, none⟩) hb3 (Nat.le_refl _) _
              generalize W3.setCell ⟨W2.heap.size, 0, none⟩ (.string sch) = W6 at *
              have hE6 := hE.below hb6 (by omega)
              have hC6 := hC2.below hb6 (by omega)
              have hS6 : StrsAt W6 w.heap.size v sufs := hS3.below hb6 (by omega)
              have hT6 := hT3.below hb6 (by omega)
              have hbw6 := hbw2.trans (hb6.mono (by omega))
              have hB6 := hB.below hbw6
              clear z0 q0 hO hL3 hb3 hb6 hE hC2 hS3 hT3 hbw2
              have hltE : W1.heap.size < W6.heap.size := by omega
              have hltO : W2.heap.size < W6.heap.size := by omega
              have hltC : w.heap.size < W6.heap.size := by omega
              have hwB : w.heap.size ≤ W6.heap.size := by omega
              have hCL := fun (X : World) (bb : Below W6.heap.size W6 X) => cloneStep_any (.slice (some ⟨b, off, none⟩) ss.length cap) ss X ((hT6.below bb hwB).up (Nat.le_trans hwB bb.size)) hok hsn
              go_cut [13] (fun v13 wx => ∃ u, u = v13 ∧ StepsAt wx wx.heap.size u (ss ++ [⟨true, e.tm, sch, e.host, e.path, [c]⟩, ⟨false, e.tm, e.scheme, e.host, e.path, []⟩]) ∧ Below W6.heap.size W6 wx)
              case first =>
                clear hs6 hs3 hszW
                have HSET := fun W => set_any e.tm sch e.host e.path c W
                have HASK := fun W => ask_any e.tm e.scheme e.host e.path W
                unfold SetRes setVal at HSET
                unfold ckCells at HSET
                unfold askVal at HASK
                have BB := Below.refl W6.heap.size W6
                unfold stCells at hE6
                unfold ckCells at hC6
                obtain ⟨x0, x1, x2, x3, x4, x5⟩ := row6 hE6
                obtain ⟨a0, a1, a2⟩ := row3 hO6
                obtain ⟨y0, y1, y2, y3, y4, y5, y6⟩ := row7 hC6
                simp only [Nat.zero_add] at x1 x2 x3 x4 x5 a1 a2 y1 y2 y3 y4 y5 y6
                go_region_held3 (fun w' => w'.cell? ⟨W1.heap.size, 1, none⟩ = some (.int .i64 e.tm) ∧ w'.cell? ⟨W1.heap.size, 2, none⟩ = some (.string e.scheme) ∧ w'.cell? ⟨W1.heap.size, 3, none⟩ = some (.string e.host) ∧ w'.cell? ⟨W1.heap.size, 4, none⟩ = some (.string e.path) ∧ w'.cell? ⟨W2.heap.size, 0, none⟩ = some (.string sch) ∧ w'.cell? ⟨W2.heap.size, 1, none⟩ = some (.string e.host) ∧ w'.cell? ⟨W2.heap.size, 2, none⟩ = some (.string e.path) ∧ w'.cell? ⟨w.heap.size, 0, none⟩ = some (.string c.name) ∧ w'.cell? ⟨w.heap.size, 1, none⟩ = some (.string c.value) ∧ w'.cell? ⟨w.heap.size, 2, none⟩ = some (.string c.domain) ∧ w'.cell? ⟨w.heap.size, 3, none⟩ = some (.string c.path) ∧ w'.cell? ⟨w.heap.size, 4, none⟩ = some (.int .i64 c.maxAge) ∧ w'.cell? ⟨w.heap.size, 5, none⟩ = some (.int .i64 c.expires) ∧ w'.cell? ⟨w.heap.size, 6, none⟩ = some (.bool c.secure)) (go_keep)
                  (first
                    | (go_at_call 17; refine (HASK _).mono ?_; rintro r w2 ⟨rfl, hb4⟩; have GO := below_on BB (by first | exact ⟨rfl, rfl, rfl, Or.inl rfl⟩ | exact ⟨rfl, rfl, rfl, Or.inr ⟨_, rfl⟩⟩) hb4; clear hb4; replace hown := own_on hown GO; replace BC := bel_on BC GO; replace R1 := row_on R1 GO; replace BB := bel_on BB GO; clear GO; clear x0 x1 x2 x3 x4 x5 a0 a1 a2 y0 y1 y2 y3 y4 y5 y6; obtain ⟨x0, x1, x2, x3, x4, x5⟩ := row6 (hE6.below BB hltE); obtain ⟨a0, a1, a2⟩ := row3 (hO6.below BB hltO); obtain ⟨y0, y1, y2, y3, y4, y5, y6⟩ := row7 (hC6.below BB hltC); simp only [Nat.zero_add] at x1 x2 x3 x4 x5 a1 a2 y1 y2 y3 y4 y5 y6)
                    | (go_at_call 16; refine (HSET _).mono ?_; rintro r w2 ⟨b1, rfl, hb1, hb2, hb3, hb4⟩; have NE := own_ne_at hown (by first | exact ⟨rfl, rfl, rfl, Or.inl rfl⟩ | exact ⟨rfl, rfl, rfl, Or.inr ⟨_, rfl⟩⟩) hb1; have GO := below_on BB (by first | exact ⟨rfl, rfl, rfl, Or.inl rfl⟩ | exact ⟨rfl, rfl, rfl, Or.inr ⟨_, rfl⟩⟩) hb4; clear hb4; replace hown := own_on hown GO; replace BC := bel_on BC GO; have R1 := And.intro hb3 hb2; replace BB := bel_on BB GO; clear GO hb1 hb2 hb3; clear x0 x1 x2 x3 x4 x5 a0 a1 a2 y0 y1 y2 y3 y4 y5 y6; obtain ⟨x0, x1, x2, x3, x4, x5⟩ := row6 (hE6.below BB hltE); obtain ⟨a0, a1, a2⟩ := row3 (hO6.below BB hltO); obtain ⟨y0, y1, y2, y3, y4, y5, y6⟩ := row7 (hC6.below BB hltC); simp only [Nat.zero_add] at x1 x2 x3 x4 x5 a1 a2 y1 y2 y3 y4 y5 y6)
                    | (go_at_call 27; refine (hCL _ (below_now BB (by first | exact ⟨rfl, rfl, rfl, Or.inl rfl⟩ | exact ⟨rfl, rfl, rfl, Or.inr ⟨_, rfl⟩⟩))).mono ?_; rintro r w2 hcl; have hb4 := clone_bel hcl; have GO := below_on BB (by first | exact ⟨rfl, rfl, rfl, Or.inl rfl⟩ | exact ⟨rfl, rfl, rfl, Or.inr ⟨_, rfl⟩⟩) hb4; clear hb4; obtain ⟨X, u, L, rfl, hLL, hown, hck, BC, hAX⟩ := clone_on BB (by first | exact ⟨rfl, rfl, rfl, Or.inl rfl⟩ | exact ⟨rfl, rfl, rfl, Or.inr ⟨_, rfl⟩⟩) hcl; clear hcl; have hLl := clone_len hLL hsn; replace BB := bel_on BB GO; clear GO; clear x0 x1 x2 x3 x4 x5 a0 a1 a2 y0 y1 y2 y3 y4 y5 y6; obtain ⟨x0, x1, x2, x3, x4, x5⟩ := row6 (hE6.below BB hltE); obtain ⟨a0, a1, a2⟩ := row3 (hO6.below BB hltO); obtain ⟨y0, y1, y2, y3, y4, y5, y6⟩ := row7 (hC6.below BB hltC); simp only [Nat.zero_add] at x1 x2 x3 x4 x5 a1 a2 y1 y2 y3 y4 y5 y6)
                    | (refine step_app (M := [putS e.tm sch e.host e.path c b1, askS e.tm e.scheme e.host e.path]) _ _ (by rfl) (by rfl) (by rfl) (by rfl) (by first | exact ⟨rfl, rfl, rfl, Or.inl rfl⟩ | exact ⟨rfl, rfl, rfl, Or.inr ⟨_, rfl⟩⟩) hown hLL hLl (by simp) (by simp) BC BB hAX hck (more_news e.tm e.tm sch e.scheme e.host e.path c b1) (laid_now (us := [.bool true, .int .i64 e.tm, .string sch, .string e.host, .string e.path, .slice (some ⟨b1, 0, none⟩) 1 1, .bool false, .int .i64 e.tm, .string e.scheme, .string e.host, .string e.path, .slice none 0 0]) (T := 32) (by rfl)).1 (fun w3 hg => more_ck (row_now R1 (by first | exact ⟨rfl, rfl, rfl, Or.inl rfl⟩ | exact ⟨rfl, rfl, rfl, Or.inr ⟨_, rfl⟩⟩)) hg NE (Nat.lt_of_lt_of_le (row_now R1 (by first | exact ⟨rfl, rfl, rfl, Or.inl rfl⟩ | exact ⟨rfl, rfl, rfl, Or.inr ⟨_, rfl⟩⟩)).2 hg.size)) ?_; intro g cap3 w3 HX; replace BB := HX.bel; clear x0 x1 x2 x3 x4 x5 a0 a1 a2 y0 y1 y2 y3 y4 y5 y6; obtain ⟨x0, x1, x2, x3, x4, x5⟩ := row6 (hE6.below BB hltE); obtain ⟨a0, a1, a2⟩ := row3 (hO6.below BB hltO); obtain ⟨y0, y1, y2, y3, y4, y5, y6⟩ := row7 (hC6.below BB hltC); simp only [Nat.zero_add] at x1 x2 x3 x4 x5 a1 a2 y1 y2 y3 y4 y5 y6)
                    | fail "no arm")
                all_goals
                  go_wp2
                  go_meet
                  exact ⟨_, rfl, HX.st, BB⟩
              case rest =>
                obtain ⟨um, rfl, hst, hb7⟩ := hcut
                have hs7 := hb7.size
                have hE7 := hE6.below hb7 hltE
                have hO7 := hO6.below hb7 hltO
                have hS7 : StrsAt wc w.heap.size v sufs := hS6.below hb7 hwB
                have hT7 := hT6.below hb7 hwB
                have hbw7 := hbw6.trans (hb7.mono (by omega))
                have hB7 := hB.below hbw7
                have hf6 := fits6_use hf.2
                have hfe := hfit e hem
                have hfit7 : ∀ s ∈ ss ++ [⟨true, e.tm, sch, e.host, e.path, [c]⟩, ⟨false, e.tm, e.scheme, e.host, e.path, []⟩], StFit s := fun s hs => by
                  rcases List.mem_append.1 hs with h | h
                  · exact hfit s h
                  · simp only [List.mem_cons, List.not_mem_nil, or_false] at h
                    rcases h with rfl | rfl
                    · exact fit_put hf.1.2 hfe.2.1 hfe.2.2.1 hf.2 hfe.2.2.2.2.1 hca hce
                    · exact fit_get hfe.1 hfe.2.1 hfe.2.2.1 hfe.2.2.2.2.1
                have HFIT := Lib.hid hfit7
                clear hE6 hO6 hS6 hT6 hbw6 hb7 hCL hC6 hB6 hf6 hfe hfit hf hfit7 hs6 hs3
                generalize wc = W7 at *
                have hltE : W1.heap.size < W7.heap.size := by omega
                have hltO : W2.heap.size < W7.heap.size := by omega
                have hwB : w.heap.size ≤ W7.heap.size := by omega
                obtain ⟨more, hmore⟩ : ∃ more, ss ++ [⟨true, e.tm, sch, e.host, e.path, [c]⟩, ⟨false, e.tm, e.scheme, e.host, e.path, []⟩] = more := ⟨_, rfl⟩
                have HMORE := Lib.hid hmore
                have hml : more.length = ss.length + 2 := by rw [← hmore, List.length_append]; rfl
                rw [hmore] at hst HFIT
                clear hmore
                have HVAL := Valid_any listed v um sufs more W7.heap.size W7 (strs_at hS7 hwB (Below.refl _ _)) hst (Nat.le_refl _) hsl.1 hsl.2 (by omega) HFIT.out
                obtain ⟨vb, hvb⟩ : ∃ vb, validB listed sufs more = vb := ⟨_, rfl⟩
                have HVB := Lib.hid hvb
                rw [hvb] at HVAL
                clear hvb
                cases vb
                · go_wp2_with fail
                  refine HVAL.mono ?_
                  rintro r w8 ⟨rfl, hb8⟩
                  go_wp2
                  go_returns
                  exact ⟨rfl, hbw7.trans (hb8.mono (by omega))⟩
                · go_wp2_with fail
                  refine HVAL.mono ?_
                  rintro r w8 ⟨rfl, hb8⟩
                  have hg := valid_good HVB.out HFIT.out
                  have hbw8 := hbw7.trans (hb8.mono (by omega))
                  have HL := last_any listed v um sufs more w8 (run_args (strs_at hS7 hwB hb8) ((hst.below hb8 (Nat.le_refl _)).up hb8.size) hsl HVB.out HFIT.out) (hB.below hbw8)
                  have hE7' := hE7.below hb8 hltE
                  have hO7' := hO7.below hb8 hltO
                  have hS7' : StrsAt w8 w.heap.size v sufs := hS7.below hb8 hwB
                  have hT7' := hT7.below hb8 hwB
                  have hs8 := hb8.size
                  clear HVAL hst
                  go_wp2_with fail
                  refine HL.mono ?_
                  rintro r w9 ⟨u1, o1, rfl, hrel1, hp1, hb9⟩
                  have hs9 := hb9.size
                  have hE8 := hE7'.below hb9 (by omega)
                  have hO8 := hO7'.below hb9 (by omega)
                  have hS8 : StrsAt w9 w.heap.size v sufs := hS7'.below hb9 (by omega)
                  have hT8 := hT7'.below hb9 (by omega)
                  have hbw9 := hbw8.trans (hb9.mono hbw8.size)
                  have hB9 := hB.below hbw9
                  have hmem : ∀ s ∈ ss, s ∈ more := fun s hs => by rw [← HMORE.out]; exact List.mem_append_left _ hs
                  have hg1 := hg.1 ⟨true, e.tm, sch, e.host, e.path, [c]⟩ (by rw [← HMORE.out]; simp)
                  have hlen64 := hg.2.1
                  have hoks : ∀ sc', ∀ s ∈ ss ++ [⟨false, e.tm, sc', e.host, e.path, []⟩], StepOK s ∧ s.cookies.length ≤ 64 := fun sc' s hs => by
                    rcases List.mem_append.1 hs with h | h
                    · exact ⟨(hg.1 s (hmem s h)).ok, (hg.1 s (hmem s h)).few⟩
                    · rw [List.mem_singleton] at h
                      subst h
                      exact ⟨⟨hg1.ok.host, hg1.ok.tm, hg1.ok.ho, hg1.ok.pa, by simp, fun x hx => by cases hx⟩, by simp⟩
                  have hll : ∀ sc' : ByteArray, (ss ++ [(⟨false, e.tm, sc', e.host, e.path, []⟩ : PStep)]).length ≤ 64 := fun sc' => by rw [List.length_append, List.length_singleton]; omega
                  have hrl := run_len hrel1 (fun s hs => ⟨(hg.1 s hs).ok, (hg.1 s hs).few⟩) hlen64
                  have HRL := Lib.hid hrl
                  have hwB9 : w.heap.size ≤ w9.heap.size := by omega
                  have hltE : W1.heap.size < w9.heap.size := by omega
                  have hltO : W2.heap.size < w9.heap.size := by omega
                  clear hg hg1 hlen64 hmem hE7 hE7' hO7 hO7' hS7 hS7' hT7 hT7' HL hb8 hb9 hbw7 hbw8 hB7 hrl
                  generalize w9 = W9 at *
                  have hLASTX := fun (sc' : ByteArray) (X : World) (um : Value) (hst : StepsAt X X.heap.size um (ss ++ [⟨false, e.tm, sc', e.host, e.path, []⟩])) (bb : Below W9.heap.size W9 X) =>
                    last_any listed v um sufs (ss ++ [⟨false, e.tm, sc', e.host, e.path, []⟩]) X ⟨strs_at hS8 hwB9 bb, hst, hsl, fun s hs => (hoks sc' s hs).1, hll sc', fun s hs => (hoks sc' s hs).2⟩ (hB9.below bb)
                  have hCL := fun (X : World) (bb : Below W9.heap.size W9 X) => cloneStep_any (.slice (some ⟨b, off, none⟩) ss.length cap) ss X ((hT8.below bb hwB9).up (Nat.le_trans hwB9 bb.size)) hok hsn
                  have HLX := Lib.hid hLASTX
                  have HOKS := Lib.hid hoks
                  have HLL := Lib.hid hll
                  clear hLASTX hoks hll
                  go_upto_region 12 with (fail)
                  go_cut [15] (fun v15 wx => ∃ u o, u = v15 ∧ RunRel (pslOf listed sufs) noJar 0 (ss ++ [⟨false, e.tm, e.scheme, e.host, e.path, []⟩]) o ∧ PairsAt wx (fun _ => True) u ((pairsOf o).getLastD []) ∧ Below W9.heap.size W9 wx)
                  case first =>
                    clear hs7 hs8 hs9 hml
                    have HASK := fun W => ask_any e.tm e.scheme e.host e.path W
                    unfold askVal at HASK
                    have HLAST := HLX.out e.scheme
                    have BB := Below.refl W9.heap.size W9
                    unfold stCells at hE8
                    obtain ⟨x0, x1, x2, x3, x4, x5⟩ := row6 hE8
                    simp only [Nat.zero_add] at x1 x2 x3 x4 x5
                    go_region_held3 (fun w' => w'.cell? ⟨W1.heap.size, 1, none⟩ = some (.int .i64 e.tm) ∧ w'.cell? ⟨W1.heap.size, 2, none⟩ = some (.string e.scheme) ∧ w'.cell? ⟨W1.heap.size, 3, none⟩ = some (.string e.host) ∧ w'.cell? ⟨W1.heap.size, 4, none⟩ = some (.string e.path)) (go_keep)
                      (first
                        | (go_at_call 17; refine (HASK _).mono ?_; rintro r w2 ⟨rfl, hb4⟩; have GO := below_on BB (by first | exact ⟨rfl, rfl, rfl, Or.inl rfl⟩ | exact ⟨rfl, rfl, rfl, Or.inr ⟨_, rfl⟩⟩) hb4; clear hb4; replace hown := own_on hown GO; replace BC := bel_on BC GO; replace BB := bel_on BB GO; clear GO; clear x0 x1 x2 x3 x4 x5; obtain ⟨x0, x1, x2, x3, x4, x5⟩ := row6 (hE8.below BB hltE); simp only [Nat.zero_add] at x1 x2 x3 x4 x5)
                        | (go_at_call 27; refine (hCL _ (below_now BB (by first | exact ⟨rfl, rfl, rfl, Or.inl rfl⟩ | exact ⟨rfl, rfl, rfl, Or.inr ⟨_, rfl⟩⟩))).mono ?_; rintro r w2 hcl; have hb4 := clone_bel hcl; have GO := below_on BB (by first | exact ⟨rfl, rfl, rfl, Or.inl rfl⟩ | exact ⟨rfl, rfl, rfl, Or.inr ⟨_, rfl⟩⟩) hb4; clear hb4; obtain ⟨X, u, L, rfl, hLL, hown, hck, BC, hAX⟩ := clone_on BB (by first | exact ⟨rfl, rfl, rfl, Or.inl rfl⟩ | exact ⟨rfl, rfl, rfl, Or.inr ⟨_, rfl⟩⟩) hcl; clear hcl; have hLl := clone_len hLL hsn; replace BB := bel_on BB GO; clear GO; clear x0 x1 x2 x3 x4 x5; obtain ⟨x0, x1, x2, x3, x4, x5⟩ := row6 (hE8.below BB hltE); simp only [Nat.zero_add] at x1 x2 x3 x4 x5)
                        | (have g1 := ST; clear g1; go_at_call 20; refine (HLAST _ _ (steps_on ST (Same.below (by first | exact ⟨rfl, rfl, rfl, Or.inl rfl⟩ | exact ⟨rfl, rfl, rfl, Or.inr ⟨_, rfl⟩⟩))) (below_now BB (by first | exact ⟨rfl, rfl, rfl, Or.inl rfl⟩ | exact ⟨rfl, rfl, rfl, Or.inr ⟨_, rfl⟩⟩))).mono ?_; rintro r w2 ⟨u9, o9, rfl, hrel9, hp9, hb4⟩; have GO := below_on BB (by first | exact ⟨rfl, rfl, rfl, Or.inl rfl⟩ | exact ⟨rfl, rfl, rfl, Or.inr ⟨_, rfl⟩⟩) hb4; clear hb4; replace BB := bel_on BB GO; clear GO ST; clear x0 x1 x2 x3 x4 x5; obtain ⟨x0, x1, x2, x3, x4, x5⟩ := row6 (hE8.below BB hltE); simp only [Nat.zero_add] at x1 x2 x3 x4 x5)
                        | (refine step_app (M := [askS e.tm e.scheme e.host e.path]) _ _ (by rfl) (by rfl) (by rfl) (by rfl) (by first | exact ⟨rfl, rfl, rfl, Or.inl rfl⟩ | exact ⟨rfl, rfl, rfl, Or.inr ⟨_, rfl⟩⟩) hown hLL hLl (by simp) (by simp) BC BB hAX hck (ask_news e.tm e.scheme e.host e.path) (laid_now (us := [.bool false, .int .i64 e.tm, .string e.scheme, .string e.host, .string e.path, .slice none 0 0]) (T := 32) (by rfl)).1 (fun _ _ => ask_ck) ?_; intro g cap3 w3 HX; have ST := HX.st; replace BB := HX.bel; clear HX hown; clear x0 x1 x2 x3 x4 x5; obtain ⟨x0, x1, x2, x3, x4, x5⟩ := row6 (hE8.below BB hltE); simp only [Nat.zero_add] at x1 x2 x3 x4 x5)
                        | fail "no arm")
                    all_goals
                      go_wp2
                      go_meet
                      exact ⟨u9, o9, rfl, hrel9, hp9.to (fun _ _ _ => trivial), BB⟩
                  case rest =>
                    obtain ⟨u2, o2, rfl, hrel2, hp2, hb10⟩ := hcut
                    have BB := hb10
                    clear hb10 hs7 hs8 hs9 hml
                    have hp1' := (hp1.to (Q' := fun _ => True) (fun _ _ _ => trivial)).below BB
                    have hlaw := law_same rfl rfl (HWEB.out) (by rw [← HMORE.out] at hrel1; exact hrel1) hrel2
                    have hl1 := last_len (HRL.out)
                    have HASK := fun W => ask_any e.tm sch e.host e.path W
                    unfold askVal at HASK
                    have HLAST := HLX.out sch
                    have P1 := hp1'
                    have P2 := hp2
                    have HLAW := Lib.hid hlaw
                    clear hp1' hp2 hlaw
                    unfold stCells at hE8
                    obtain ⟨x0, x1, x2, x3, x4, x5⟩ := row6 (hE8.below BB hltE)
                    obtain ⟨a0, a1, a2⟩ := row3 (hO8.below BB hltO)
                    simp only [Nat.zero_add] at x1 x2 x3 x4 x5 a1 a2
                    go_upto_region 13 with (fail)
                    go_region_held3 (fun w' => w'.cell? ⟨W1.heap.size, 1, none⟩ = some (.int .i64 e.tm) ∧ w'.cell? ⟨W2.heap.size, 0, none⟩ = some (.string sch) ∧ w'.cell? ⟨W2.heap.size, 1, none⟩ = some (.string e.host) ∧ w'.cell? ⟨W2.heap.size, 2, none⟩ = some (.string e.path)) (go_keep)
                      (first
                        | (go_at_call 26; refine (eqPair_eq BB (by first | exact ⟨rfl, rfl, rfl, Or.inl rfl⟩ | exact ⟨rfl, rfl, rfl, Or.inr ⟨_, rfl⟩⟩) P1 P2 hl1 HLAW.out).mono ?_; rintro r w2 ⟨rfl, hb4⟩; have GO := below_on BB (by first | exact ⟨rfl, rfl, rfl, Or.inl rfl⟩ | exact ⟨rfl, rfl, rfl, Or.inr ⟨_, rfl⟩⟩) hb4; clear hb4; replace BB := bel_on BB GO; clear GO; clear x0 x1 x2 x3 x4 x5 a0 a1 a2; obtain ⟨x0, x1, x2, x3, x4, x5⟩ := row6 (hE8.below BB hltE); obtain ⟨a0, a1, a2⟩ := row3 (hO8.below BB hltO); simp only [Nat.zero_add] at x1 x2 x3 x4 x5 a1 a2)
                        | (go_at_call 17; refine (HASK _).mono ?_; rintro r w2 ⟨rfl, hb4⟩; have GO := below_on BB (by first | exact ⟨rfl, rfl, rfl, Or.inl rfl⟩ | exact ⟨rfl, rfl, rfl, Or.inr ⟨_, rfl⟩⟩) hb4; clear hb4; replace hown := own_on hown GO; replace BC := bel_on BC GO; replace BB := bel_on BB GO; clear GO; clear x0 x1 x2 x3 x4 x5 a0 a1 a2; obtain ⟨x0, x1, x2, x3, x4, x5⟩ := row6 (hE8.below BB hltE); obtain ⟨a0, a1, a2⟩ := row3 (hO8.below BB hltO); simp only [Nat.zero_add] at x1 x2 x3 x4 x5 a1 a2)
                        | (go_at_call 27; refine (hCL _ (below_now BB (by first | exact ⟨rfl, rfl, rfl, Or.inl rfl⟩ | exact ⟨rfl, rfl, rfl, Or.inr ⟨_, rfl⟩⟩))).mono ?_; rintro r w2 hcl; have hb4 := clone_bel hcl; have GO := below_on BB (by first | exact ⟨rfl, rfl, rfl, Or.inl rfl⟩ | exact ⟨rfl, rfl, rfl, Or.inr ⟨_, rfl⟩⟩) hb4; clear hb4; obtain ⟨X, u, L, rfl, hLL, hown, hck, BC, hAX⟩ := clone_on BB (by first | exact ⟨rfl, rfl, rfl, Or.inl rfl⟩ | exact ⟨rfl, rfl, rfl, Or.inr ⟨_, rfl⟩⟩) hcl; clear hcl; have hLl := clone_len hLL hsn; replace BB := bel_on BB GO; clear GO; clear x0 x1 x2 x3 x4 x5 a0 a1 a2; obtain ⟨x0, x1, x2, x3, x4, x5⟩ := row6 (hE8.below BB hltE); obtain ⟨a0, a1, a2⟩ := row3 (hO8.below BB hltO); simp only [Nat.zero_add] at x1 x2 x3 x4 x5 a1 a2)
                        | (have g1 := ST; clear g1; go_at_call 20; refine (HLAST _ _ (steps_on ST (Same.below (by first | exact ⟨rfl, rfl, rfl, Or.inl rfl⟩ | exact ⟨rfl, rfl, rfl, Or.inr ⟨_, rfl⟩⟩))) (below_now BB (by first | exact ⟨rfl, rfl, rfl, Or.inl rfl⟩ | exact ⟨rfl, rfl, rfl, Or.inr ⟨_, rfl⟩⟩))).mono ?_; rintro r w2 ⟨u9, o9, rfl, hrel9, hp9, hb4⟩; have GO := below_on BB (by first | exact ⟨rfl, rfl, rfl, Or.inl rfl⟩ | exact ⟨rfl, rfl, rfl, Or.inr ⟨_, rfl⟩⟩) hb4; clear hb4; replace BB := bel_on BB GO; clear GO ST; have hnone := law_none rfl HWEB.out hrel9; rw [hnone] at hp9; obtain ⟨ua, ub, uo, uc, rfl, _, _⟩ := hp9; clear hnone hrel9; simp only [List.length_nil]; clear x0 x1 x2 x3 x4 x5 a0 a1 a2; obtain ⟨x0, x1, x2, x3, x4, x5⟩ := row6 (hE8.below BB hltE); obtain ⟨a0, a1, a2⟩ := row3 (hO8.below BB hltO); simp only [Nat.zero_add] at x1 x2 x3 x4 x5 a1 a2)
                        | (go_at_call 21; refine (alive_any _ (hB9.below (below_now BB (by first | exact ⟨rfl, rfl, rfl, Or.inl rfl⟩ | exact ⟨rfl, rfl, rfl, Or.inr ⟨_, rfl⟩⟩)))).mono ?_; rintro r w2 ⟨rfl, hb4⟩; have GO := below_on BB (by first | exact ⟨rfl, rfl, rfl, Or.inl rfl⟩ | exact ⟨rfl, rfl, rfl, Or.inr ⟨_, rfl⟩⟩) hb4; clear hb4; replace BB := bel_on BB GO; clear GO; clear x0 x1 x2 x3 x4 x5 a0 a1 a2; obtain ⟨x0, x1, x2, x3, x4, x5⟩ := row6 (hE8.below BB hltE); obtain ⟨a0, a1, a2⟩ := row3 (hO8.below BB hltO); simp only [Nat.zero_add] at x1 x2 x3 x4 x5 a1 a2)
                        | (refine step_app (M := [askS e.tm sch e.host e.path]) _ _ (by rfl) (by rfl) (by rfl) (by rfl) (by first | exact ⟨rfl, rfl, rfl, Or.inl rfl⟩ | exact ⟨rfl, rfl, rfl, Or.inr ⟨_, rfl⟩⟩) hown hLL hLl (by simp) (by simp) BC BB hAX hck (ask_news e.tm sch e.host e.path) (laid_now (us := [.bool false, .int .i64 e.tm, .string sch, .string e.host, .string e.path, .slice none 0 0]) (T := 32) (by rfl)).1 (fun _ _ => ask_ck) ?_; intro g cap3 w3 HX; have ST := HX.st; replace BB := HX.bel; clear HX hown; clear x0 x1 x2 x3 x4 x5 a0 a1 a2; obtain ⟨x0, x1, x2, x3, x4, x5⟩ := row6 (hE8.below BB hltE); obtain ⟨a0, a1, a2⟩ := row3 (hO8.below BB hltO); simp only [Nat.zero_add] at x1 x2 x3 x4 x5 a1 a2)
                        | fail "no arm")
                    all_goals
                      go_wp2
                      go_returns
                      exact ⟨rfl, hbw9.trans (BB.mono hwB9)⟩
        · go_wp2
          go_returns
          exact ⟨rfl, hbw⟩
end Go.Proofs.YtcofblepdfjhjaaDoor

/- The law FnLater: its walk. -/
import Derived.Test.YtcofblepdfjhjaaDoorLawKit
import Derived.Test.YtcofblepdfjhjaaDoorCloneS
import Derived.Test.YtcofblepdfjhjaaDoorLawsC
namespace Go.Proofs.YtcofblepdfjhjaaDoor
open Go.RowKit
set_option maxRecDepth 100000 in
set_option maxHeartbeats 6400000 in
theorem FnLater_any (listed : Bool) (v : Value) (sufs : List ByteArray) (vs : Value) (ss : List PStep) (n : Int) (w : World) (hB : Base w) (hS : StrsAt w w.heap.size v sufs) (hl : sufs.length ≤ 9223372036854775807) (hsz : ∀ x ∈ sufs, x.size ≤ 9223372036854775807)
    (hT : StepsAt w w.heap.size vs ss) (hok : SliceOK vs) (hls : ss.length ≤ 9223372036854775807) (hw1 : ∀ x ∈ ss, StLen x) (hw2 : ∀ s ∈ ss, I64 s.tm ∧ ∀ c ∈ s.cookies, I64 c.maxAge ∧ I64 c.expires) (hn : I64 n) :
    Calls Tryd.prog 7 #[.bool listed, v, vs, .int .i64 n] w fun r w' => r = .returned (.bool true) ∧ Below w.heap.size w w' := by
  have HF1 := zzFits1_any v sufs w.heap.size w hS hl hsz
  have HF2 := zzFits2_any vs ss w.heap.size w hT (Nat.le_refl _) hls hw1
  have HW2 := Lib.hid hw2
  obtain ⟨ao, cap, rfl, hcap, hnil⟩ := hok.form hT
  clear hok hw1 hw2
  go_enter Tryd.func7, Tryd.ntmps7
  go_upto_region 1 with (fail)
  go_cut [20] (fun v20 wx => v20 = .bool (!(fits1 sufs && fits2 ss)) ∧ Below w.heap.size w wx)
  case first =>
    as_aux_lemma =>
    cases hf1 : fits1 sufs
    · have H1 := Lib.hid hf1
      clear hf1
      go_wp2_with fail
      refine HF1.mono ?_
      rintro r w1 ⟨rfl, rfl⟩
      rw [H1.out]
      go_wp2
      go_meet
      exact ⟨by rw [H1.out]; rfl, Below.refl _ _⟩
    · have H1 := Lib.hid hf1
      clear hf1
      go_wp2_with fail
      refine HF1.mono ?_
      rintro r w1 ⟨rfl, rfl⟩
      rw [H1.out]
      go_wp2_with fail
      refine HF2.mono ?_
      rintro r w1 ⟨rfl, hb1⟩
      go_wp2
      go_meet
      exact ⟨by rw [H1.out]; rfl, hb1⟩
  case rest =>
    obtain ⟨rfl, hbw1⟩ := hcut
    obtain ⟨fb, hfb⟩ : ∃ fb, (fits1 sufs && fits2 ss) = fb := ⟨_, rfl⟩
    rw [hfb]
    have HFB := Lib.hid hfb
    have hs1 := hbw1.size
    clear hfb HF1 HF2
    generalize wc = W1 at *
    cases fb
    · as_aux_lemma =>
      go_wp2
      go_returns
      exact ⟨rfl, hbw1⟩
    · have hS1 := hS.below hbw1 (Nat.le_refl _)
      have hT1 := hT.below hbw1 (Nat.le_refl _)
      have hf : fits1 sufs = true ∧ fits2 ss = true := by have := HFB.out; simpa using this
      have hsl := fits1_use hf.1
      obtain ⟨hsn, hfit⟩ := fits2_use hf.2 HW2.out
      clear HFB hf HW2 hS hT
      have HFIT := Lib.hid hfit
      clear hfit
      obtain ⟨vb, hvb⟩ : ∃ vb, validB listed sufs ss = vb := ⟨_, rfl⟩
      have HVB := Lib.hid hvb
      have HVAL := Valid_any listed v (.slice ao ss.length cap) sufs ss W1.heap.size W1 (hS1.up hs1) (hT1.up hs1) (Nat.le_refl _) hsl.1 hsl.2 hls HFIT.out
      rw [hvb] at HVAL
      clear hvb
      go_upto_region 3 with (fail)
      go_cut [35] (fun v35 wx => ∃ q, v35 = .bool q ∧ Below W1.heap.size W1 wx ∧ (q = false → vb = true ∧ 0 ≤ n ∧ n ≤ ss.length))
      case first =>
        cases vb
        · go_wp2_with fail
          refine HVAL.mono ?_
          rintro r w2 ⟨rfl, hb2⟩
          go_wp2
          go_meet
          exact ⟨true, rfl, hb2, fun h => by cases h⟩
        · by_cases h0 : n < 0
          · go_wp2_with fail
            refine HVAL.mono ?_
            rintro r w2 ⟨rfl, hb2⟩
            go_wp2
            go_meet
            exact ⟨true, rfl, hb2, fun h => by cases h⟩
          · by_cases h1 : (ss.length : Int) < n
            · go_wp2_with fail
              refine HVAL.mono ?_
              rintro r w2 ⟨rfl, hb2⟩
              go_wp2
              go_meet
              exact ⟨true, rfl, hb2, fun h => by cases h⟩
            · go_wp2_with fail
              refine HVAL.mono ?_
              rintro r w2 ⟨rfl, hb2⟩
              go_wp2
              go_meet
              refine ⟨false, ?_, hb2, fun _ => ⟨trivial, by omega, by omega⟩⟩
              rw [decide_eq_false (by omega), decide_eq_false (by omega)]
              rfl
      case rest =>
        obtain ⟨q, rfl, hb2, hq⟩ := hcut
        have hs2 := hb2.size
        have hS2 := hS1.below hb2 hs1
        have hT2 := hT1.below hb2 hs1
        have hbw2 := hbw1.trans (hb2.mono (by omega))
        have hB2 := hB.below hbw2
        clear hS1 hT1 HVAL hb2
        generalize wc = W2 at *
        cases q
        · obtain ⟨rfl, h0, h1⟩ := hq rfl
          obtain ⟨m, rfl⟩ : ∃ m : Nat, n = m := ⟨n.toNat, by omega⟩
          have hmn : m ≤ ss.length := by omega
          have hmc : m ≤ cap := by omega
          have hg := valid_good HVB.out HFIT.out
          have hwB : w.heap.size ≤ W2.heap.size := by omega
          have hrl := fun (o : List (List Ent)) (h : RunRel (pslOf listed sufs) noJar 0 ss o) => run_len h (fun s hs => ⟨(hg.1 s hs).ok, (hg.1 s hs).few⟩) hg.2.1
          have HRL := Lib.hid hrl
          have hr1 := fun (X : World) (bb : Below W2.heap.size W2 X) => Run_args (listed := listed) (v := v) (vs := .slice ao ss.length cap) (sufs := sufs) (ss := ss) (w := X) ⟨strs_at hS2 hwB bb, (hT2.below bb hwB).up (Nat.le_trans hwB bb.size), hsl, fun s hs => (hg.1 s hs).ok, hg.2.1, fun s hs => (hg.1 s hs).few⟩ (hB2.below bb)
          have hr2 := fun (X : World) (bb : Below W2.heap.size W2 X) => Run_args (listed := listed) (v := v) (vs := .slice ao m cap) (sufs := sufs) (ss := ss.take m) (w := X) ⟨strs_at hS2 hwB bb, ((hT2.take m hmn).below bb hwB).up (Nat.le_trans hwB bb.size), hsl, fun s hs => (hg.1 s (List.mem_of_mem_take hs)).ok, by rw [List.length_take]; have := hg.2.1; omega, fun s hs => (hg.1 s (List.mem_of_mem_take hs)).few⟩ (hB2.below bb)
          obtain ⟨te, pe, hc0⟩ := hB2.2
          have hp0 := hB2.1
          have h64 := hg.2.1
          clear hg hrl hT2 hS2 hq h0 h1
          go_upto_region 5 with (fail)
          go_cut [9, 10] (fun v9 v10 wx => ∃ u1 o1 u2 o2, u1 = v9 ∧ u2 = v10 ∧ RunRel (pslOf listed sufs) noJar 0 ss o1 ∧ RunRel (pslOf listed sufs) noJar 0 (ss.take m) o2 ∧ OutsAt wx (fun _ => True) u1 (pairsOf o1) ∧ OutsAt wx (fun _ => True) u2 (pairsOf o2) ∧ Below W2.heap.size W2 wx)
          case first =>
            clear hs1 hs2
            have BB := Below.refl W2.heap.size W2
            cases ao
            · have hc0' := hnil rfl
              subst hc0'
              obtain rfl : m = 0 := by omega
              obtain rfl : ss = [] := List.length_eq_zero_iff.1 (by omega)
              go_region_held3 (fun w' => w'.cell? ⟨0, 0, none⟩ = some (.iface te pe)) (go_keep)
                (first
                  | (go_at_call 25; have hold := hp1; refine (hr1 _ (below_step BB (Below.refl _ _) (by rfl) (by rfl) (by rfl) (by rfl))).mono ?_; rintro r w2 ⟨u2, o2, rfl, hrel2, hp2, hb4⟩; have hc := (hb4.cell (p := ⟨0, 0, none⟩) (Nat.lt_of_lt_of_le hp0 BB.size)).trans ((BB.cell (p := ⟨0, 0, none⟩) hp0).trans hc0); have BB := below_step BB hb4 rfl rfl rfl rfl; have hp1 := outs_step hold hb4 rfl; have hp2 := OutsAt.any hp2)
                  | (go_at_call 25; refine (hr1 _ (below_step BB (Below.refl _ _) (by rfl) (by rfl) (by rfl) (by rfl))).mono ?_; rintro r w2 ⟨u1, o1, rfl, hrel1, hp1, hb4⟩; have hc := (hb4.cell (p := ⟨0, 0, none⟩) (Nat.lt_of_lt_of_le hp0 BB.size)).trans ((BB.cell (p := ⟨0, 0, none⟩) hp0).trans hc0); have BB := below_step BB hb4 rfl rfl rfl rfl; have hp1 := OutsAt.any hp1))
              all_goals
                go_wp2
                go_meet
                first | exact ⟨u1, o1, u2, o2, rfl, rfl, hrel1, hrel2, hp1, hp2, BB⟩ | exact ⟨u2, o2, u1, o1, rfl, rfl, hrel2, hrel1, hp2, hp1, BB⟩
            · clear hcap
              go_region_held3 (fun w' => w'.cell? ⟨0, 0, none⟩ = some (.iface te pe)) (go_keep)
                (first
                  | (go_at_call_of 25 m; refine (hr2 _ (below_step BB (Below.refl _ _) (by rfl) (by rfl) (by rfl) (by rfl))).mono ?_; rintro r w2 ⟨u2, o2, rfl, hrel2, hp2, hb4⟩; have hc := (hb4.cell (p := ⟨0, 0, none⟩) (Nat.lt_of_lt_of_le hp0 BB.size)).trans ((BB.cell (p := ⟨0, 0, none⟩) hp0).trans hc0); have BB := below_step BB hb4 rfl rfl rfl rfl; (try have hp1 := outs_step hp1 hb4 rfl); have hp2 := OutsAt.any hp2)
                  | (go_at_call 25; refine (hr1 _ (below_step BB (Below.refl _ _) (by rfl) (by rfl) (by rfl) (by rfl))).mono ?_; rintro r w2 ⟨u1, o1, rfl, hrel1, hp1, hb4⟩; have hc := (hb4.cell (p := ⟨0, 0, none⟩) (Nat.lt_of_lt_of_le hp0 BB.size)).trans ((BB.cell (p := ⟨0, 0, none⟩) hp0).trans hc0); have BB := below_step BB hb4 rfl rfl rfl rfl; (try have hp2 := outs_step hp2 hb4 rfl); have hp1 := OutsAt.any hp1))
              all_goals
                go_wp2
                go_meet
                exact ⟨u1, o1, u2, o2, rfl, rfl, hrel1, hrel2, hp1, hp2, BB⟩
          case rest =>
            obtain ⟨u1, o1, u2, o2, rfl, rfl, hrel1, hrel2, hp1, hp2, hb3⟩ := hcut
            obtain ⟨o3, ho⟩ := law_later hrel1 hrel2
            have hlen := HRL.out o1 hrel1
            have hs3 := hb3.size
            have hbw3 := hbw2.trans (hb3.mono (by omega))
            have hB3 := hB.below hbw3
            clear hb3 hr1 hr2 HRL
            generalize wc = W3 at *
            have hk1 := hrel1.len
            have hle : (pairsOf o2).length ≤ (pairsOf o1).length := by rw [pairsOf_len, pairsOf_len, ho, List.length_append]; omega
            have hle64 : (pairsOf o1).length ≤ 64 := by rw [pairsOf_len]; omega
            have hget : ∀ (k : Nat) (ps : List (ByteArray × ByteArray)), (pairsOf o2)[k]? = some ps → (pairsOf o1)[k]? = some ps ∧ ps.length ≤ 2147483647 := fun k ps hk => by
              have hk' : k < (pairsOf o2).length := (List.getElem?_eq_some_iff.1 hk).1
              have e : (pairsOf o1)[k]? = some ps := by
                rw [ho]
                unfold pairsOf at hk hk' ⊢
                rw [List.map_append, List.getElem?_append_left hk']
                exact hk
              refine ⟨e, ?_⟩
              unfold pairsOf at e
              rw [List.getElem?_map] at e
              cases hL : o1[k]? with
              | none => rw [hL] at e; cases e
              | some L =>
                rw [hL] at e
                obtain rfl : L.map pairOf = ps := Option.some.inj e
                exact hlen L (List.mem_of_getElem? hL)
            have HGET := Lib.hid hget
            clear hget hlen hk1 ho hrel1 hrel2
            generalize pairsOf o1 = P1 at *
            generalize pairsOf o2 = P2 at *
            obtain ⟨a1, b1, f1, c1, rfl, x1, x2⟩ := hp1
            obtain ⟨a2, b2, f2, c2, rfl, y1, y2⟩ := hp2
            have X1 := Lib.hid x1
            have X2 := Lib.hid x2
            have Y1 := Lib.hid y1
            have Y2 := Lib.hid y2
            clear x1 x2 y1 y2
            go_wp2
            go_loopw [53] (fun i wr => ∃ k : Nat, k ≤ P2.length ∧ i = .int .i64 k ∧ Below W3.heap.size W3 wr) (fun i _ => P2.length - (intOf i).toNat)
            case atStart => exact ⟨0, Nat.zero_le _, rfl, Below.refl _ _⟩
            case round =>
              obtain ⟨k, hk, rfl, hbel⟩ := hrel
              by_cases hlt : k < P2.length
              · have hps : P2[k]? = some P2[k] := List.getElem?_eq_getElem hlt
                generalize P2[k] = ps at hps
                obtain ⟨hps1, hpl⟩ := HGET.out k ps hps
                obtain ⟨u', g1, g2⟩ := Y2.out k ps hps
                obtain ⟨u, g3, g4⟩ := X2.out k ps hps1
                obtain ⟨ha2, hb2, _⟩ := Y1.out (by omega)
                obtain ⟨ha1, hb1, _⟩ := X1.out (by omega)
                subst ha1 ha2
                have r1 : wr.cell? ⟨b2, f2 + k, none⟩ = some u' := (hbel.cell (p := ⟨b2, f2 + k, none⟩) hb2).trans g1
                have r2 : wr.cell? ⟨b1, f1 + k, none⟩ = some u := (hbel.cell (p := ⟨b1, f1 + k, none⟩) hb1).trans g3
                have HEQ := eqPair_any (g2.below hbel) (g4.below hbel) hpl
                rw [decide_eq_true rfl] at HEQ
                have hk1 : (k : Int) < (P1.length : Int) := by omega
                have hsz9 := hbel.size
                clear g1 g2 g3 g4 hps hps1
                go_wp2_with fail
                refine HEQ.mono ?_
                rintro r w9 ⟨rfl, hb9⟩
                clear HEQ r1 r2
                go_wp2
                go_roundw
                case rel => exact ⟨k + 1, by omega, by go_num, hbel.trans (hb9.mono hsz9)⟩
                case measure => simp [intOf]; omega
              · have hbw9 := hbw3.trans (hbel.mono (by have := hs1; omega))
                have HAL := alive_any wr (hB3.below hbel)
                go_wp2_with fail
                refine HAL.mono ?_
                rintro r w10 ⟨rfl, hb10⟩
                go_wp2
                go_returns
                exact ⟨rfl, hbw9.trans (hb10.mono hbw9.size)⟩
        · go_wp2
          go_returns
          exact ⟨rfl, hbw2⟩
end Go.Proofs.YtcofblepdfjhjaaDoor

/- Walks: setCookies. -/
import Derived.Test.YtcofblepdfjhjaaGreatDoorSet1
import Derived.Test.YtcofblepdfjhjaaGreatDoorW21
import Derived.Test.YtcofblepdfjhjaaGreatDoorPlainD
namespace Go.Proofs.YtcofblepdfjhjaaGreatDoor
open Go.RowKit
theorem Chg.old {F : Nat → Prop} {w w' : World} {B : Nat} (h : Chg F w w') (hB : B ≤ w.heap.size) (hF : ∀ b, F b → B ≤ b) : Below B w w' := h.below hB hF
set_option maxRecDepth 100000 in
set_option maxHeartbeats 16000000 in
theorem setCookies_any (psl : Option (List ByteArray)) (pv ev v : Value) (B jb ub : Nat) (F : Nat → Prop) (J : ByteArray → ByteArray → Option Ent) (n : Nat) (sc ho pa : ByteArray) (h : List UInt8) (cs : List PCookie) (now : Int) (te : TypeId) (pe : Value) (w : World)
    (hJ : JarAt w jb pv F J n) (hP : PslAt w B pv psl) (hB : B ≤ w.heap.size) (hB0 : 0 < B) (hFB : ∀ b, F b → B ≤ b) (hev : ev = .iface te pe) (hg : w.cell? ⟨0, 0, none⟩ = some ev)
    (hu : RowAt w ub 0 [.string sc, .string ho, .string pa]) (hub : ub < w.heap.size) (hv : PtrsAt w (fun b => ¬ F b) v cs)
    (hho : ho.size ≤ 4294967296) (hpa : pa.size ≤ 2147483647) (hH : HostPort (lst ho) h) (hnow : 0 ≤ now ∧ now ≤ 4294967296) (hlen : cs.length ≤ 2147483647) (hn : n + cs.length < 9223372036854775807)
    (hcs : ∀ c ∈ cs, DomOK (lst c.domain) ∧ c.maxAge ≤ 4294967296 ∧ (0 ≤ c.expires ∧ c.expires ≤ 4294967296) ∧ c.name.size ≤ 2147483647 ∧ c.value.size ≤ 2147483647 ∧ c.domain.size ≤ 2147483647 ∧ c.path.size ≤ 2147483647) :
    Calls Tryz.prog 44 #[.pointer (some ⟨jb, 0, none⟩), .pointer (some ⟨ub, 0, none⟩), v, tv now] w
      (SetPost jb pv F (if cs = [] ∨ isWeb sc = false then J else updJ J (keyOf psl (str (low h))) (setList psl (str (low h)) (str (defPath (lst pa))) now cs (J (keyOf psl (str (low h))), n)).1)
        (if cs = [] ∨ isWeb sc = false then n else (setList psl (str (low h)) (str (defPath (lst pa))) now cs (J (keyOf psl (str (low h))), n)).2) w) := by
  subst hev
  obtain ⟨ao, b, off, cap, rfl, ha, hcv⟩ := hv
  have u0 : w.cell? ⟨ub, 0, none⟩ = some (.string sc) := hu.at 0 _ rfl
  have u1 : w.cell? ⟨ub, 1, none⟩ = some (.string ho) := by simpa using hu.at 1 _ rfl
  have u2 : w.cell? ⟨ub, 2, none⟩ = some (.string pa) := by simpa using hu.at 2 _ rfl
  unfold tv
  by_cases c0 : cs = []
  · subst c0
    have Hpost : Hid ((SetPost jb pv F J n w) = (SetPost jb pv F J n w)) := rfl
    rw [if_pos (Or.inl rfl), if_pos (Or.inl rfl)]
    clear hcs hcv ha hu u0 u1 u2 hlen hn
    go_enter Tryz.func44, Tryz.ntmps44
    go_wp2
    go_returns
    exact ⟨rfl, F, hJ.chg (Chg.of_new ((Below.refl _ _).alloc (Nat.le_refl _) _) (fun _ => False)) (fun _ _ e => e), Chg.of_new ((Below.refl _ _).alloc (Nat.le_refl _) _) _, fun b hb => Or.inl hb⟩
  · have hpos : 0 < cs.length := List.length_pos_iff.2 c0
    have hlen0 : ((cs.length : Int) == 0) = false := beq_eq_false_iff_ne.2 (by omega)
    cases hweb : isWeb sc
    · rw [if_pos (Or.inr rfl), if_pos (Or.inr rfl)]
      unfold isWeb at hweb
      rw [Bool.or_eq_false_iff] at hweb
      have w1 : (sc.toList == [104, 116, 116, 112]) = false := by rw [toList_lst, beq_eq_false_iff_ne]; exact fun e => of_decide_eq_false hweb.1 (lst_inj e)
      have w2 : (sc.toList == [104, 116, 116, 112, 115]) = false := by rw [toList_lst, beq_eq_false_iff_ne]; exact fun e => of_decide_eq_false hweb.2 (lst_inj e)
      clear hweb hcs hcv ha hu u1 u2 hn
      go_enter Tryz.func44, Tryz.ntmps44
      go_wp2
      go_returns
      exact ⟨rfl, F, hJ.chg (Chg.of_new ((Below.refl _ _).alloc (Nat.le_refl _) _) (fun _ => False)) (fun _ _ e => e), Chg.of_new ((Below.refl _ _).alloc (Nat.le_refl _) _) _, fun b hb => Or.inl hb⟩
    · rw [if_neg (by rintro (e | e); exact c0 e; cases e), if_neg (by rintro (e | e); exact c0 e; cases e)]
      have Hweb := Lib.hid hweb
      have HSlow := hH.1.low
      have hhl := host_len hH
      rw [lst_len] at hhl
      have n58 : ∀ x ∈ lst (str (low h)), (x.toNat : Int) ≠ 58 := by rw [lst_str]; exact HSlow.none 58 (by omega)
      have n37 : ∀ x ∈ lst (str (low h)), (x.toNat : Int) ≠ 37 := by rw [lst_str]; exact HSlow.none 37 (by omega)
      have hhs : (str (low h)).size ≤ 4294967296 := by rw [str_size, low_len]; omega
      have HCH := fun W => canonicalHost_any ho h W (by omega) hH
      generalize hhost : str (low h) = host at *
      clear hhost HSlow hhl hweb
      generalize hkey : keyOf psl host = key at *
      have Hkey := Lib.hid hkey
      clear hkey
      have HDP := fun W => defaultPath_any pa W (by omega)
      have hdf := defPath_fit (lst pa)
      have hdp1 : (str (defPath (lst pa))).size ≤ 2147483647 := by rw [str_size]; rw [lst_len] at hdf; omega
      have hdp0 : 0 < (str (defPath (lst pa))).size := by rw [str_size]; omega
      clear hdf
      generalize hdp : str (defPath (lst pa)) = defp at *
      clear hdp
      have HJK := fun W hW => jarKey_any psl pv B host W hW (by omega) n58 n37
      have HCV := Lib.hid hcv
      have HA := Lib.hid ha
      have HCS := Lib.hid hcs
      clear hcv ha hcs
      go_enter Tryz.func44, Tryz.ntmps44
      go_upto_region 2 with (fail)
      go_cut [38] (fun s wx => s = .bool false ∧ Below w.heap.size w wx ∧ wx.heap.size = w.heap.size + 1 ∧ wx.cell? ⟨w.heap.size, 0, none⟩ = some (.int .i64 now) ∧ wx.cell? ⟨w.heap.size, 1, none⟩ = some (.int .i64 0))
      case first =>
        as_aux_lemma =>
          have hw := Hweb.out
          unfold isWeb at hw
          by_cases w1 : sc = ⟨#[104, 116, 116, 112]⟩
          · subst w1
            clear hw
            go_wp2_with fail
            go_meet
            exact ⟨rfl, (Below.refl _ _).alloc (Nat.le_refl _) _, by simp, by simp [go_sem], by simp [go_sem]⟩
          · rw [decide_eq_false w1, Bool.false_or] at hw
            have w2 := of_decide_eq_true hw
            subst w2
            clear hw w1
            go_wp2_with fail
            go_meet
            exact ⟨rfl, (Below.refl _ _).alloc (Nat.le_refl _) _, by simp, by simp [go_sem], by simp [go_sem]⟩
      case rest =>
        obtain ⟨rfl, hb0, hs0, k0, k1⟩ := hcut
        have u1' := (hb0.cell (p := ⟨ub, 1, none⟩) hub).trans u1
        have hu' := hu.below hb0 hub
        clear u0 u1 u2 Hweb
        go_wp2_with fail
        refine (HCH _).mono ?_
        rintro r w1 ⟨rfl, hb1⟩
        have hb01 := hb0.trans (hb1.mono (by omega))
        have hs1 := hb1.size
        have u2 : w1.cell? ⟨ub, 2, none⟩ = some (.string pa) := by simpa using (hu.below hb01 hub).at 2 _ rfl
        have hJ1 := hJ.chg (Chg.of_new hb01 (fun _ => False)) (fun _ _ e => e)
        have hjw0 : jb < w.heap.size := by obtain ⟨_, _, _, _, _, _, _, h6, _⟩ := hJ.ex; exact h6
        obtain ⟨bm, E, G, hR, hG, hsub⟩ := hJ1.open key
        have j0 : w1.cell? ⟨jb, 0, none⟩ = some pv := hR.row.at 0 _ rfl
        have j1 : w1.cell? ⟨jb, 1, none⟩ = some (.map (some bm)) := by simpa using hR.row.at 1 _ rfl
        have hJk : E key = none → ∀ id, J key id = none := by
          rcases hsub with ⟨_, h⟩ | ⟨bs, M, e, _⟩
          · exact fun _ => h
          · intro h; rw [e] at h; cases h
        have k0' := (hb1.cell (p := ⟨w.heap.size, 0, none⟩) (by simp; omega)).trans k0
        have k1' := (hb1.cell (p := ⟨w.heap.size, 1, none⟩) (by simp; omega)).trans k1
        go_wp2_with fail
        refine (HJK _ (hP.below hb01 hB)).mono ?_
        rintro r w' ⟨rfl, rfl⟩
        rw [Hkey.out]
        go_wp2_with fail
        refine (HDP _).mono ?_
        rintro r w' ⟨rfl, rfl⟩
        have hlook := hR.map.lookup (P := Tryz.prog) Tryz.underlying88 Tryz.underlying9 (zero_map w1) key
        go_wp2_with fail
        go_loopw [12, 13, 68] (fun v12 v13 i wr => ∃ (k : Nat) (S : ByteArray → Option Ent) (m : Nat), k ≤ cs.length ∧ i = .int .i64 k ∧ SetRel w F G jb bm pv J key E wr v12 v13 S m ∧ m ≤ n + k ∧ (wr.cell? ⟨w.heap.size, 0, none⟩ = some (.int .i64 now) ∧ wr.cell? ⟨w.heap.size, 1, none⟩ = some (.int .i64 0) ∧ (w.heap.size < wr.heap.size ∧ w1.heap.size ≤ wr.heap.size)) ∧ Hid (setList psl host defp now cs (J key, n) = setList psl host defp now (cs.drop k) (S, m))) (fun _ _ i _ => cs.length - (intOf i).toNat)
        case atStart =>
          refine ⟨0, J key, n, Nat.zero_le _, rfl, ⟨?_⟩, by omega, ⟨k0', k1', by omega⟩, rfl⟩
          rcases hsub with ⟨e, hnone⟩ | ⟨bs, M, e, hF, hGn, hne, hM, hEM⟩
          · exact ⟨none, false, by rw [e]; rfl, rfl, hR, Chg.of_new hb01 _, fun _ => rfl, Or.inl ⟨rfl, e, rfl⟩⟩
          · exact ⟨some bs, false, by rw [e]; rfl, rfl, hR, Chg.of_new hb01 _, fun _ => rfl, Or.inr ⟨bs, M, rfl, hGn, hne, Or.inl hF, hM, hEM, Or.inl e⟩⟩
        case round =>
          obtain ⟨k, S, m, hk, rfl, hrelS, hm, ⟨z0, z1, hzs⟩, hrel⟩ := hrel
          obtain ⟨sub, md, rfl, rfl, hRw, hCh, hmd, hsubw⟩ := hrelS.ex
          by_cases hlt : k < cs.length
          · obtain ⟨ha1, hbl, hFb⟩ := HA.out hpos
            subst ha1
            have hck : cs[k]? = some cs[k] := List.getElem?_eq_getElem hlt
            obtain ⟨cb, hc1, hc2, hc3, hc4⟩ := HCV.out k cs[k] hck
            obtain ⟨d1, d2, d3, d4, d5, d6, d7⟩ := HCS.out cs[k] (List.getElem_mem hlt)
            have hdrop : cs.drop k = cs[k] :: cs.drop (k + 1) := List.drop_eq_getElem_cons hlt
            have hrel2 : Hid (setList psl host defp now cs (J key, n) = setList psl host defp now (cs.drop (k + 1)) (setOne now (newEnt psl host defp now cs[k]) (S, m))) := by show _ = _; rw [hrel.out, hdrop]; rfl
            generalize cs[k] = c at *
            have hcell := (hCh.cell (p := ⟨b, off + k, none⟩) hbl hFb).trans hc1
            have hcr : RowAt wr cb 0 (pkCells c) := hc4.chg hCh hc2 hc3
            have hcbl : cb < wr.heap.size := Nat.lt_of_lt_of_le hc2 hCh.size
            have hBw := hCh.old hB hFB
            have hPw := hP.below hBw (Nat.le_refl _)
            have hgw := (hBw.cell (p := ⟨0, 0, none⟩) hB0).trans hg
            have hjw : wr.cell? ⟨jb, 0, none⟩ = some pv := hRw.row.at 0 _ rfl
            have HNE := newEntry_any psl pv (.iface te pe) B jb cb host defp now c te pe wr hPw (by have := hCh.size; omega) hjw hRw.lt rfl hgw (by omega) hcr hcbl (by omega) (by omega) n58 n37 d1 hnow d2 d3 (by omega)
            unfold tv at HNE
            have HNE' := Lib.hid HNE
            clear HNE hdrop hrel
            go_upto_region 12 with (fail)
            go_cut [16, 17, 18] (fun v16 v17 v18 wx => NewSlots (.iface te pe) (newEnt psl host defp now c) v16 v17 v18 wr wx)
            case first =>
              as_aux_lemma =>
                go_wp2_with fail
                refine HNE'.out.mono ?_
                intro r w2 hpost
                obtain ⟨hres, hb2⟩ := hpost
                cases hne : newEnt psl host defp now c with
                | none =>
                  rw [hne] at hres
                  obtain ⟨e0, la0, rfl⟩ := hres
                  have Hne := Lib.hid hne
                  clear hne hrel2 HNE'
                  unfold entVal entCells
                  go_wp2
                  go_meet
                  exact NewSlots.new (.iface te pe) _ _ _ wr w2 e0 la0 false rfl (Or.inl ⟨Hne.out, rfl⟩) hb2
                | some p =>
                  obtain ⟨e0, rem⟩ := p
                  rw [hne] at hres
                  have hres' : r = .returned (.tuple #[entVal e0 0, .bool rem, .nilIface]) := hres
                  subst hres'
                  have Hne := Lib.hid hne
                  clear hne hrel2 HNE' hres
                  unfold entVal entCells
                  go_wp2
                  go_meet
                  exact NewSlots.new (.iface te pe) _ _ _ wr w2 e0 0 rem rfl (Or.inr ⟨Hne.out, rfl, rfl⟩) hb2
            case rest =>
              obtain ⟨eb, e0, la0, rem, rfl, rfl, hcase, heb, heb2, hre, hle, hbx⟩ := hcut
              have hRc := hRw.chg (Chg.of_new hbx (fun _ => False)) (fun _ _ e => e)
              have hCc : Chg F w wc := hCh.trans (Chg.of_new hbx F) (fun _ _ e => e)
              have hbs := hbx.size
              have z0' := (hbx.cell (p := ⟨w.heap.size, 0, none⟩) (by simp; omega)).trans z0
              have z1' := (hbx.cell (p := ⟨w.heap.size, 1, none⟩) (by simp; omega)).trans z1
              rcases hcase with ⟨hne, rfl⟩ | ⟨hne, rfl, rfl⟩
              · as_aux_lemma =>
                  have hrel3 : Hid (setList psl host defp now cs (J key, n) = setList psl host defp now (cs.drop (k + 1)) (S, m)) := by show _ = _; rw [hrel2.out, hne]; rfl
                  clear hrel2 hne HNE'
                  go_wp2
                  go_roundw
                  case rel =>
                    refine ⟨k + 1, S, m, by omega, by go_num, ⟨⟨sub, md, rfl, rfl, hRc, hCc, hmd, ?_⟩⟩, by omega, ⟨z0', z1', by omega⟩, hrel3⟩
                    rcases hsubw with h | ⟨bs, M, g1, g2, g3, g4, g5, g6, g7⟩
                    · exact Or.inl h
                    · exact Or.inr ⟨bs, M, g1, g2, g3, g4, g5.chg (Chg.of_new hbx (fun _ => False)) (fun e => e), g6, g7⟩
                  case measure => simp [intOf]; omega
              · obtain ⟨hfit, hp0, _, _⟩ := newEnt_fit hne hhs hdp1 hdp0 d4 d5 d6 d7
                have hrel3 : Hid (setList psl host defp now cs (J key, n) = setList psl host defp now (cs.drop (k + 1)) (setOne now (some (e0, rem)) (S, m))) := by show _ = _; rw [hrel2.out, hne]
                have HID := id_any e0 0 eb 0 wc hre hfit
                clear hrel2 hne HNE'
                go_wp2_with fail
                refine HID.mono ?_
                rintro r w3 ⟨rfl, hb3⟩
                have hb3s := hb3.size
                have hR3 := hRc.chg (Chg.of_new hb3 (fun _ => False)) (fun _ _ e => e)
                have hC3 : Chg F w w3 := hCc.trans (Chg.of_new hb3 F) (fun _ _ e => e)
                have y0 := (hb3.cell (p := ⟨w.heap.size, 0, none⟩) (by simp; omega)).trans z0'
                have y1 := (hb3.cell (p := ⟨w.heap.size, 1, none⟩) (by simp; omega)).trans z1'
                have hre3 := hre.below hb3 heb2
                have hle3 := hle.below hb3 heb2
                have hsub3 : (sub = none ∧ E key = none ∧ md = false) ∨ ∃ bs M, sub = some bs ∧ ¬ G bs ∧ bs ≠ bm ∧ (F bs ∨ w.heap.size ≤ bs) ∧ bs < wr.heap.size ∧ MapIs w3 bs M ∧ EntMap M S ∧ (E key = some (.map (some bs)) ∨ E key = none) := by
                  rcases hsubw with h | ⟨bs, M, g1, g2, g3, g4, g5, g6, g7⟩
                  · exact Or.inl h
                  · exact Or.inr ⟨bs, M, g1, g2, g3, g4, g5.lt, (g5.chg (Chg.of_new hbx (fun _ => False)) (fun e => e)).chg (Chg.of_new hb3 (fun _ => False)) (fun e => e), g6, g7⟩
                clear hRc hCc z0' z1' hre hle hsubw hRw hCh z0 z1 hcell hcr hPw hgw hjw HID hb3
                generalize hid : entId e0 = id at *
                have Hid' := Lib.hid hid
                clear hid
                cases rem
                · as_aux_lemma =>
                    have hgx : ∀ x, G x → x < w3.heap.size := fun x hx => by have := (hG x hx).2; omega
                    have hwe : w.heap.size ≤ eb := by omega
                    have hes : eb < w3.heap.size := by omega
                    have hbml := hR3.map.lt
                    have hwr : wr.heap.size ≤ eb := heb
                    have hrs : wr.heap.size ≤ w3.heap.size := by omega
                    clear hfit hp0
                    have hq : (binOp .eql 106 (.map sub) (.map none)).run Tryz.prog w3 = .ok (.bool sub.isNone) w3 := by cases sub; exact eqlNil w3; exact eqlSome _ w3
                    generalize hbb : sub.isNone = bb at hq
                    have Hbb := Lib.hid hbb
                    clear hbb
                    go_upto_if 98 with (fail)
                    go_cut [12] (fun v12 wx => ∃ bs M, v12 = .map (some bs) ∧ Below w3.heap.size w3 wx ∧ ¬ G bs ∧ bs ≠ bm ∧ (F bs ∨ w.heap.size ≤ bs) ∧ bs ≠ eb ∧ MapIs wx bs M ∧ EntMap M S ∧ (E key = some (.map (some bs)) ∨ E key = none))
                    case first =>
                      as_aux_lemma =>
                        rcases hsub3 with ⟨hsn, hEk, hmn⟩ | ⟨bs, M, rfl, g2, g3, g4, g4', g5, g6, g7⟩
                        · have hS0 : EntMap (fun _ => none) S := by
                            have hq : S = fun _ => none := by funext id; rw [hmd hmn]; exact hJk hEk id
                            rw [hq]; exact EntMap.empty
                          have HEk := Lib.hid hEk
                          have hbt : bb = true := by rw [← Hbb.out, hsn]; rfl
                          subst hbt
                          clear hEk hmd hJk hq Hbb hmn hsn
                          go_wp2_with fail
                          rw [run_makeMap]
                          go_wp2
                          go_meet
                          exact ⟨w3.heap.size, fun _ => none, rfl, (Below.refl _ _).alloc (Nat.le_refl _) _, fun h => by have := hgx _ h; omega, by omega, Or.inr (by omega), by omega, MapIs.made w3, hS0, Or.inr HEk.out⟩
                        · have G7 := Lib.hid g7
                          have hbt : bb = false := by rw [← Hbb.out]; rfl
                          subst hbt
                          clear g7 hmd hJk hq Hbb
                          go_wp2
                          go_meet
                          exact ⟨bs, M, rfl, Below.refl _ _, g2, g3, g4, by omega, g5, g6, G7.out⟩
                    case rest =>
                      as_aux_lemma =>
                        obtain ⟨bs, M, rfl, hbw, g2, g3, g3', g4', g5, g6, g7⟩ := hcut
                        have G7 := Lib.hid g7
                        clear g7 hq Hbb
                        have hws := hbw.size
                        have hR4 := hR3.chg (Chg.of_new hbw (fun _ => False)) (fun _ _ e => e)
                        have hC4 : Chg F w wc := hC3.trans (Chg.of_new hbw F) (fun _ _ e => e)
                        have x0 := (hbw.cell (p := ⟨w.heap.size, 0, none⟩) (by simp; omega)).trans y0
                        have x1 := (hbw.cell (p := ⟨w.heap.size, 1, none⟩) (by simp; omega)).trans y1
                        have hre4 := hre3.below hbw (by omega)
                        have hle4 := hle3.below hbw (by omega)
                        have hec : eb < wc.heap.size := by omega
                        have hFj : F jb := (hG jb hR4.gj).1
                        have hje : jb ≠ eb := fun h => by have := (hG jb hR4.gj).2; omega
                        have hjs : jb ≠ bs := fun h => g2 (h ▸ hR4.gj)
                        have hGe : ∀ x, G x → x ≠ eb := fun x hx h => by have := (hG x hx).2; omega
                        clear hR3 hC3 y0 y1 hre3 hle3 hbw hsub3 hmd hgx hes hbml
                        have hlk := g5.lookup_ok (P := Tryz.prog) Tryz.underlying106 Tryz.underlying9 (zero_ent wc) id
                        have hlkH := Lib.hid hlk
                        clear hlk
                        go_upto_region 23 with (fail)
                        go_cut [22, 23] (fun v22 v23 wx => ∃ ob oe ola ok, v22 = .pointer (some ⟨ob, 0, none⟩) ∧ v23 = .bool ok ∧ (ok = true → S id = some oe) ∧ (ok = false → S id = none) ∧ RowAt wx ob 0 (entCells oe ola) ∧ wc.heap.size ≤ ob ∧ ob < wx.heap.size ∧ Below wc.heap.size wc wx)
                        case first =>
                          as_aux_lemma =>
                            have hlk := hlkH.out
                            clear hlkH
                            cases hS : S id with
                            | none =>
                              rw [(g6 id).1 hS] at hlk
                              simp only [Option.getD_none, Option.isSome_none] at hlk
                              unfold entVal entCells at hlk
                              have HS := Lib.hid hS
                              clear hS hrel3
                              go_wp2
                              go_meet
                              exact ⟨wc.heap.size, ⟨⟨#[]⟩, ⟨#[]⟩, ⟨#[]⟩, ⟨#[]⟩, false, false, false, 0, 0, 0⟩, 0, false, rfl, rfl, fun h => (by cases h), fun _ => HS.out, RowAt.new wc (entCells _ _) 109, Nat.le_refl _, by simp, (Below.refl _ _).alloc (Nat.le_refl _) _⟩
                            | some old =>
                              obtain ⟨la', hla'⟩ := (g6 id).2 old hS
                              rw [hla'] at hlk
                              simp only [Option.getD_some, Option.isSome_some] at hlk
                              unfold entVal entCells at hlk
                              have HS := Lib.hid hS
                              clear hS hla' hrel3
                              go_wp2
                              go_meet
                              exact ⟨wc.heap.size, old, la', true, rfl, rfl, fun _ => HS.out, fun h => (by cases h), RowAt.new wc (entCells _ _) 109, Nat.le_refl _, by simp, (Below.refl _ _).alloc (Nat.le_refl _) _⟩
                        case rest =>
                          as_aux_lemma =>
                            obtain ⟨ob, oe, ola, ok, rfl, rfl, hok1, hok2, hor, hob1, hob2, hbz⟩ := hcut
                            have HOK1 := Lib.hid hok1
                            have HOK2 := Lib.hid hok2
                            clear hok1 hok2
                            have hzs := hbz.size
                            have hR5 := hR4.chg (Chg.of_new hbz (fun _ => False)) (fun _ _ e => e)
                            have hC5 : Chg F w wc := hC4.trans (Chg.of_new hbz F) (fun _ _ e => e)
                            have s0 := (hbz.cell (p := ⟨w.heap.size, 0, none⟩) (by simp; omega)).trans x0
                            have s1 := (hbz.cell (p := ⟨w.heap.size, 1, none⟩) (by simp; omega)).trans x1
                            have hre5 := hre4.below hbz hec
                            have hle5 := hle4.below hbz hec
                            have hM5 := g5.chg (Chg.of_new hbz (fun _ => False)) (fun e => e)
                            have heob : eb ≠ ob := by omega
                            have hec5 : eb < wc.heap.size := by omega
                            have hwne : w.heap.size ≠ eb := by omega
                            have hjlt := hR5.lt
                            clear hR4 hC4 x0 x1 hre4 hle4 g5 hlkH hbz hec
                            have q11 := hle5 11
                            have q12 := hle5 12
                            have q15 := hle5 15
                            have r11 : wc.cell? ⟨eb, 11, none⟩ = some (.int .i64 e0.cre) := by simpa using hre5.at 11 _ rfl
                            have r12 : wc.cell? ⟨eb, 12, none⟩ = some (.int .i64 0) := by simpa using hre5.at 12 _ rfl
                            have r15 : wc.cell? ⟨eb, 15, none⟩ = some (.int .u64 e0.seq) := by simpa using hre5.at 15 _ rfl
                            have hE15 : ∀ u v x, Chg (· = eb) wc (((wc.setCell ⟨eb, 11, none⟩ u).setCell ⟨eb, 12, none⟩ v).setCell ⟨eb, 15, none⟩ x) := fun u v x => (((Chg.refl (fun b => b = eb) wc).setCell (p := ⟨eb, 11, none⟩) (Or.inl rfl) u).setCell (p := ⟨eb, 12, none⟩) (Or.inl rfl) v).setCell (p := ⟨eb, 15, none⟩) (Or.inl rfl) x
                            have HE15 := Lib.hid hE15
                            clear hE15
                            go_upto_if 106 with (fail)
                            go_cut [] (fun wx => ∃ e1 m', setOne now (some (e0, false)) (S, m) = (updS S id (some e1), m') ∧ m' ≤ m + 1 ∧ RowAt wx eb 0 (entCells e1 0) ∧ Loose wx eb ∧ JarRest wx jb pv G J m' key bm E ∧ Chg F w wx ∧ MapIs wx bs M ∧ wx.cell? ⟨w.heap.size, 0, none⟩ = some (.int .i64 now) ∧ wx.cell? ⟨w.heap.size, 1, none⟩ = some (.int .i64 0) ∧ wc.heap.size ≤ wx.heap.size)
                            case first =>
                              as_aux_lemma =>
                                cases ok
                                · have hS := HOK2.out rfl
                                  have hO : Hid (setOne now (some (e0, false)) (S, m) = (updS S id (some { e0 with cre := now, seq := m }), m + 1)) := by
                                    show _ = _
                                    have hS' := hS
                                    rw [← Hid'.out] at hS' ⊢
                                    simp only [setOne, hS']
                                  clear hS HOK1 HOK2 hrel3
                                  have j2 : wc.cell? ⟨jb, 2, none⟩ = some (.int .u64 m) := by simpa using hR5.row.at 2 _ rfl
                                  have q2 := hR5.loose 2
                                  have e3 : IntKind.u64.wrap ((m : Int) + 1) = (m : Int) + 1 := IntWalk.u64_in _ (by omega)
                                  have hej : eb ≠ jb := Ne.symm hje
                                  go_wp2
                                  go_meet
                                  have hE := HE15.out (.int .i64 now) (.int .i64 0) (.int .u64 m)
                                  have hR6 := hR5.chg hE hGe
                                  have hR7 := hR6.set_n (m + 1)
                                  rw [show ((m + 1 : Nat) : Int) = (m : Int) + 1 from rfl] at hR7
                                  have hE2 := (Chg.refl (fun b => b = jb) (((wc.setCell ⟨eb, 11, none⟩ (.int .i64 now)).setCell ⟨eb, 12, none⟩ (.int .i64 0)).setCell ⟨eb, 15, none⟩ (.int .u64 m))).setCell (p := ⟨jb, 2, none⟩) (Or.inl rfl) (.int .u64 ((m : Int) + 1))
                                  have hC6 := (hC5.trans hE (fun x hx e => by omega)).trans hE2 (fun x _ e => e ▸ hFj)
                                  refine ⟨_, _, hO.out, Nat.le_refl _, ?_, ?_, hR7, hC6, (hM5.chg hE g4').chg hE2 (Ne.symm hjs), ?_, ?_, ?_⟩
                                  · exact ((((hre5.set 11 (.int .i64 now)).set 12 (.int .i64 0)).set 15 (.int .u64 m)).chg hE2 (by simp; omega) hej)
                                  · exact Loose.setCell (Loose.setCell (Loose.setCell (Loose.setCell hle5 _ _) _ _) _ _) _ _
                                  · exact (hE2.cell (p := ⟨w.heap.size, 0, none⟩) (by simp; omega) (by simp; omega)).trans ((hE.cell (p := ⟨w.heap.size, 0, none⟩) (by simp; omega) hwne).trans s0)
                                  · exact (hE2.cell (p := ⟨w.heap.size, 1, none⟩) (by simp; omega) (by simp; omega)).trans ((hE.cell (p := ⟨w.heap.size, 1, none⟩) (by simp; omega) hwne).trans s1)
                                  · simp
                                · have hS := HOK1.out rfl
                                  have hO : Hid (setOne now (some (e0, false)) (S, m) = (updS S id (some { e0 with cre := oe.cre, seq := oe.seq }), m)) := by
                                    show _ = _
                                    have hS' := hS
                                    rw [← Hid'.out] at hS' ⊢
                                    simp only [setOne, hS']
                                  clear hS HOK1 HOK2 hrel3
                                  have o11 : wc.cell? ⟨ob, 11, none⟩ = some (.int .i64 oe.cre) := by simpa using hor.at 11 _ rfl
                                  have o12 : wc.cell? ⟨ob, 12, none⟩ = some (.int .i64 0) := by simpa using hor.at 12 _ rfl
                                  have o15 : wc.cell? ⟨ob, 15, none⟩ = some (.int .u64 oe.seq) := by simpa using hor.at 15 _ rfl
                                  have hobe : ob ≠ eb := Ne.symm heob
                                  go_wp2
                                  go_meet
                                  have hE := HE15.out (.int .i64 oe.cre) (.int .i64 0) (.int .u64 oe.seq)
                                  refine ⟨_, _, hO.out, by omega, ((hre5.set 11 (.int .i64 oe.cre)).set 12 (.int .i64 0)).set 15 (.int .u64 oe.seq), ?_, hR5.chg hE hGe, hC5.trans hE (fun x hx e => by omega), hM5.chg hE g4', ?_, ?_, ?_⟩
                                  · exact Loose.setCell (Loose.setCell (Loose.setCell hle5 _ _) _ _) _ _
                                  · exact (hE.cell (p := ⟨w.heap.size, 0, none⟩) (by simp; omega) hwne).trans s0
                                  · exact (hE.cell (p := ⟨w.heap.size, 1, none⟩) (by simp; omega) hwne).trans s1
                                  · simp
                            case rest =>
                              as_aux_lemma =>
                                obtain ⟨e1, m', hO, hmm, hre6, hle6, hR6, hC6, hM6, p0, p1, hzs6⟩ := hcut
                                have hrel5 : Hid (setList psl host defp now cs (J key, n) = setList psl host defp now (cs.drop (k + 1)) (updS S id (some e1), m')) := by show _ = _; rw [hrel3.out, hO]
                                clear hO hrel3 HOK1 HOK2 hR5 hC5 s0 s1 hre5 hle5 hM5 hor q11 q12 q15 r11 r12 r15 HE15
                                have hec6 : eb < wc.heap.size := by omega
                                have q13 := hle6 13
                                have q14 := hle6 14
                                have r13 : wc.cell? ⟨eb, 13, none⟩ = some (.int .i64 0) := by simpa using hre6.at 13 _ rfl
                                have r14 : wc.cell? ⟨eb, 14, none⟩ = some (.int .i64 0) := by simpa using hre6.at 14 _ rfl
                                go_upto_region 30 with (fail)
                                go_cut [] (fun wx => RowAt wx eb 0 (entCells e1 now) ∧ Chg (· = eb) wc wx)
                                case first =>
                                  go_wp2
                                  go_meet
                                  exact ⟨(hre6.set 13 (.int .i64 now)).set 14 (.int .i64 0), (((Chg.refl (fun b => b = eb) wc).setCell (p := ⟨eb, 13, none⟩) (Or.inl rfl) _).setCell (p := ⟨eb, 14, none⟩) (Or.inl rfl) _)⟩
                                case rest =>
                                  obtain ⟨hre7, hE⟩ := hcut
                                  have hes7 := hE.size
                                  have hR7 := hR6.chg hE hGe
                                  have hC7 := hC6.trans hE (fun x hx e => by omega)
                                  have hM7 := hM6.chg hE g4'
                                  have t0 := (hE.cell (p := ⟨w.heap.size, 0, none⟩) (by simp; omega) hwne).trans p0
                                  have t1 := (hE.cell (p := ⟨w.heap.size, 1, none⟩) (by simp; omega) hwne).trans p1
                                  clear hR6 hC6 hM6 p0 p1 hre6 hle6 q13 q14 r13 r14
                                  obtain ⟨w6, hrun, hM8, hCb, hs8⟩ := hM7.store (P := Tryz.prog) Tryz.underlying106 Tryz.underlying9 id (entVal e1 now)
                                  have hR8 := hR7.chg hCb (fun x hx e => g2 (e ▸ hx))
                                  have hC8 := hC7.trans hCb (fun x hx e => by subst e; rcases g3' with g | g; exact g; omega)
                                  have hbx3 := cell_ne_map t0 hM7
                                  have a0 := (hCb.cell (p := ⟨w.heap.size, 0, none⟩) (by simp; omega) hbx3).trans t0
                                  have a1 := (hCb.cell (p := ⟨w.heap.size, 1, none⟩) (by simp; omega) hbx3).trans t1
                                  have hE8 := g6.put id e1 now
                                  clear hE hR7 hC7
                                  go_wp2_with (refine load_ent rfl _ rfl eb rfl _ _ hre7 ?_)
                                  go_roundw
                                  case rel => exact ⟨k + 1, updS S id (some e1), m', by omega, by go_num, ⟨⟨some bs, true, rfl, rfl, hR8, hC8, fun e => (by cases e), Or.inr ⟨bs, upd M id (some (entVal e1 now)), rfl, g2, g3, g3', hM8, hE8, G7.out⟩⟩⟩, by omega, ⟨a0, a1, by omega⟩, hrel5⟩
                                  case measure => simp [intOf]; omega
                · as_aux_lemma =>
                    have hrel4 : Hid (setList psl host defp now cs (J key, n) = setList psl host defp now (cs.drop (k + 1)) (updS S id none, m)) := by show _ = _; rw [hrel3.out, ← Hid'.out]; rfl
                    clear hrel3
                    rcases hsub3 with ⟨hsn, hEk, hmn⟩ | ⟨bs, M, rfl, g2, g3, g4, g4', g5, g6, g7⟩
                    · have hS : S id = none := by rw [hmd hmn]; exact hJk hEk id
                      rw [updS_none hS] at hrel4
                      clear hS
                      have HEk := Lib.hid hEk
                      clear hEk
                      have hq : (binOp .neq 106 (.map sub) (.map none)).run Tryz.prog w3 = .ok (.bool false) w3 := by rw [hsn]; exact neqNil w3
                      go_wp2
                      go_roundw
                      case rel => exact ⟨k + 1, S, m, by omega, by go_num, ⟨⟨none, false, rfl, rfl, hR3, hC3, fun _ => hmd hmn, Or.inl ⟨rfl, HEk.out, rfl⟩⟩⟩, by omega, ⟨y0, y1, by omega⟩, hrel4⟩
                      case measure => simp [intOf]; omega
                    · have hlk := g5.lookup_ok (P := Tryz.prog) Tryz.underlying106 Tryz.underlying9 (zero_ent w3) id
                      cases hS : S id with
                      | none =>
                        rw [updS_none hS] at hrel4
                        rw [(g6 id).1 hS] at hlk
                        simp only [Option.getD_none, Option.isSome_none] at hlk
                        unfold entVal entCells at hlk
                        clear hS
                        go_wp2
                        go_roundw
                        case rel =>
                          exact ⟨k + 1, S, m, by omega, by go_num, ⟨⟨some bs, md, rfl, rfl, hR3.chg ((Chg.refl (fun _ => False) w3).alloc _) (fun _ _ e => e), hC3.alloc _, hmd, Or.inr ⟨bs, M, rfl, g2, g3, g4, g5.chg ((Chg.refl (fun _ => False) w3).alloc _) (fun e => e), g6, g7⟩⟩⟩, by omega, ⟨(Chg.cell ((Chg.refl (fun _ => False) w3).alloc _) (p := ⟨w.heap.size, 0, none⟩) (by simp; omega) (fun e => e)).trans y0, (Chg.cell ((Chg.refl (fun _ => False) w3).alloc _) (p := ⟨w.heap.size, 1, none⟩) (by simp; omega) (fun e => e)).trans y1, by simp; omega⟩, hrel4⟩
                        case measure => simp [intOf]; omega
                      | some old =>
                        obtain ⟨la', hla'⟩ := (g6 id).2 old hS
                        rw [hla'] at hlk
                        simp only [Option.getD_some, Option.isSome_some] at hlk
                        have hA3 : Chg (fun _ => False) w3 (w3.alloc (.cells (entCells old la').toArray 109)) := (Chg.refl (fun _ => False) w3).alloc _
                        obtain ⟨w5, hrun, hM5, hC5, hs5⟩ := (g5.chg hA3 (fun e => e)).drop (P := Tryz.prog) Tryz.underlying106 Tryz.underlying9 id 0
                        have hC35 : Chg (· = bs) w3 w5 := (hA3.mono (fun _ _ e => e.elim)).trans hC5 (fun _ _ e => e)
                        have hs35 : w5.heap.size = w3.heap.size + 1 := by rw [hs5]; simp
                        have hR5 := hR3.chg hC35 (fun x hx e => g2 (e ▸ hx))
                        have hCF : Chg F w w5 := hC3.trans hC35 (fun x hx e => by subst e; rcases g4 with g4 | g4; exact g4; omega)
                        have hbx3 := cell_ne_map y0 g5
                        have t0 := (hC35.cell (p := ⟨w.heap.size, 0, none⟩) (by simp; omega) hbx3).trans y0
                        have t1 := (hC35.cell (p := ⟨w.heap.size, 1, none⟩) (by simp; omega) hbx3).trans y1
                        have hE5 := g6.del id
                        clear hA3 hS hla' hC5
                        unfold entVal at hlk
                        unfold entCells at hlk hrun
                        go_wp2
                        go_roundw
                        case rel => exact ⟨k + 1, updS S id none, m, by omega, by go_num, ⟨⟨some bs, true, rfl, rfl, hR5, hCF, fun e => (by cases e), Or.inr ⟨bs, upd M id none, rfl, g2, g3, g4, hM5, hE5, g7⟩⟩⟩, by omega, ⟨t0, t1, by omega⟩, hrel4⟩
                        case measure => simp [intOf]; omega
          · as_aux_lemma =>
              have hke : k = cs.length := by omega
              subst hke
              have hfin : Hid (setList psl host defp now cs (J key, n) = (S, m)) := by show _ = _; rw [hrel.out, List.drop_length]; rfl
              have hFm : F bm := (hG bm hRw.gb).1
              have hGF : ∀ x, G x → F x ∨ w.heap.size ≤ x := fun x hx => Or.inl (hG x hx).1
              have jw1 : wr.cell? ⟨jb, 1, none⟩ = some (.map (some bm)) := by simpa using hRw.row.at 1 _ rfl
              clear hrel hrelS HCH HDP HJK HCV HA HCS hlook z0 z1
              rcases hsubw with ⟨hsn, hEk, hmn⟩ | ⟨bs, M, rfl, g2, g3, g4, g5, g6, g7⟩
              · have hS : ∀ id, S id = none := by rw [hmd hmn]; exact hJk hEk
                have hEnd := hRw.close_none hEk hS
                have HEnd := Lib.hid hEnd
                subst hmn
                clear hEk hmd hJk hsub hsn hS hEnd
                go_wp2
                go_returns
                rw [hfin.out]
                exact ⟨rfl, _, HEnd.out, hCh, hGF⟩
              · as_aux_lemma =>
                  have hg : F bs ∨ w.heap.size ≤ bs := g4
                  cases md
                  · have hEnd : ∃ F', JarAt wr jb pv F' (updJ J key S) m ∧ ∀ b, F' b → F b ∨ w.heap.size ≤ b := by
                      rcases g7 with g7 | g7
                      · exact ⟨_, hRw.close_some g7 g3 g5 g6, fun b hb => by rcases hb with hb | rfl; exact hGF b hb; exact hg⟩
                      · exact ⟨_, hRw.close_none g7 (by rw [hmd rfl]; exact hJk g7), hGF⟩
                    have HEnd := Lib.hid hEnd
                    clear hmd hJk hsub g7 hEnd
                    go_wp2
                    go_returns
                    rw [hfin.out]
                    obtain ⟨F', e1, e2⟩ := HEnd.out
                    exact ⟨rfl, F', e1, hCh, e2⟩
                  · clear hmd hJk hsub g7
                    obtain ⟨nn, hlen, hnn⟩ := g5.len (P := Tryz.prog) Tryz.underlying106
                    have Hnn := Lib.hid hnn
                    clear hnn
                    by_cases hn0 : nn = 0
                    · have hall := (g6.none_iff).1 (Hnn.out.1 hn0)
                      subst hn0
                      obtain ⟨w5, hrun, hR5, hC5, hs5⟩ := hRw.drop_key (P := Tryz.prog) Tryz.underlying88 Tryz.underlying9 0
                      have HEnd := Lib.hid (hR5.close_none (upd_same E key none) hall)
                      have hC6 := hCh.trans hC5 (fun x _ e => e ▸ hFm)
                      clear hall Hnn hR5
                      go_wp2
                      go_returns
                      rw [hfin.out]
                      exact ⟨rfl, _, HEnd.out, hC6, hGF⟩
                    · have hn1 : ((nn : Int) == 0) = false := beq_eq_false_iff_ne.2 (by omega)
                      obtain ⟨w5, hrun, hR5, hC5, hs5⟩ := hRw.store_key (P := Tryz.prog) Tryz.underlying88 Tryz.underlying9 (b := bs) g2
                      have HEnd := Lib.hid (hR5.close_some (upd_same E key _) g3 (g5.chg hC5 g3) g6)
                      have hC6 := hCh.trans hC5 (fun x _ e => e ▸ hFm)
                      clear Hnn hR5 hn0
                      go_wp2
                      go_returns
                      rw [hfin.out]
                      exact ⟨rfl, _, HEnd.out, hC6, fun b hb => by rcases hb with hb | rfl; exact hGF b hb; exact hg⟩
end Go.Proofs.YtcofblepdfjhjaaGreatDoor

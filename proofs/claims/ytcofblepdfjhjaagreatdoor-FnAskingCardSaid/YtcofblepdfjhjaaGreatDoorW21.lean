/- Walks: a new entry. -/
import Derived.Test.YtcofblepdfjhjaaGreatDoorW20
namespace Go.Proofs.YtcofblepdfjhjaaGreatDoor
open Go.RowKit
set_option maxRecDepth 100000 in
set_option maxHeartbeats 3200000 in
theorem newEntry_any (psl : Option (List ByteArray)) (pv ev : Value) (B jb cb : Nat) (host defp : ByteArray) (now : Int) (c : PCookie) (te : TypeId) (pe : Value) (w : World) (h : PslAt w B pv psl) (hB : B ≤ w.heap.size)
    (hj : w.cell? ⟨jb, 0, none⟩ = some pv) (hjb : jb < w.heap.size) (hev : ev = .iface te pe) (hg : w.cell? ⟨0, 0, none⟩ = some ev) (hw0 : 0 < w.heap.size)
    (hc : RowAt w cb 0 (pkCells c)) (hcb : cb < w.heap.size)
    (hh : host.size ≤ 4294967296) (hd : c.domain.size ≤ 4294967296) (h1 : ∀ x ∈ lst host, (x.toNat : Int) ≠ 58) (h2 : ∀ x ∈ lst host, (x.toNat : Int) ≠ 37) (hD : DomOK (lst c.domain))
    (hnow : 0 ≤ now ∧ now ≤ 4294967296) (hm : c.maxAge ≤ 4294967296) (_hx : 0 ≤ c.expires ∧ c.expires ≤ 4294967296) (hps : c.path.size ≤ 2147483647) :
    Calls Tryz.prog 63 #[.pointer (some ⟨jb, 0, none⟩), .pointer (some ⟨cb, 0, none⟩), tv now, .string defp, .string host] w (NewPost ev (newEnt psl host defp now c) w) := by
  have HDT := fun W hP hJ hG hs0 hs1 => domainAndType_any psl pv ev B jb host c.domain te pe W hP hs0 hJ hs1 hev hG
  have g0 : w.cell? ⟨cb, 0, none⟩ = some (.string c.name) := hc.at 0 _ rfl
  have g1 : w.cell? ⟨cb, 1, none⟩ = some (.string c.value) := by simpa using hc.at 1 _ rfl
  have g3 : w.cell? ⟨cb, 3, none⟩ = some (.string c.path) := by simpa using hc.at 3 _ rfl
  have g4 : w.cell? ⟨cb, 4, none⟩ = some (.string c.domain) := by simpa using hc.at 4 _ rfl
  unfold tv
  have cbn : cb ≠ w.heap.size := by omega
  have cbn1 : cb ≠ w.heap.size + 1 := by omega
  go_enter Tryz.func63, Tryz.ntmps63
  go_upto_region 2 with (fail)
  go_cut [30] (fun s30 wx => (∃ tb : Bool, s30 = .bool tb ∧ pathOf c defp = if tb then defp else c.path) ∧ Below w.heap.size w wx ∧ wx.heap.size = w.heap.size + 2 ∧ wx.cell? ⟨w.heap.size, 0, none⟩ = some (.int .i64 now) ∧ wx.cell? ⟨w.heap.size, 1, none⟩ = some (.int .i64 0) ∧ Loose wx (w.heap.size + 1) ∧
    EntAt wx (w.heap.size + 1) ⟨c.name, ⟨#[]⟩, ⟨#[]⟩, ⟨#[]⟩, false, false, false, 0, 0, 0⟩ 0)
  case first =>
    by_cases p0 : c.path.size = 0
    · have p0' : c.path.toList.isEmpty = true := by rw [toList_lst, List.isEmpty_iff, ← List.length_eq_zero_iff, lst_len]; exact p0
      have HP : Hid (pathOf c defp = defp) := if_pos (Or.inl p0)
      clear p0
      go_wp2_with fail
      go_meet
      refine ⟨⟨true, rfl, HP.out⟩, ?_, ?_, ?_, ?_, ?_, ?_⟩
      · exact two_alloc w _ _
      · go_size
      · simp [go_sem]
      · simp [go_sem]
      · exact fun i => by simp [go_sem]
      · refine ⟨?_, ?_, ?_, ?_, ?_, ?_, ?_, ?_, ?_, ?_, ?_, ?_, ?_, ?_, ?_, ?_⟩ <;> simp [go_sem]
    · have p0' : c.path.toList.isEmpty = false := by rw [toList_lst, List.isEmpty_eq_false_iff, ← List.length_pos_iff, lst_len]; omega
      have p1 : 0 < c.path.size := by omega
      have hg1 := getD_lst c.path 0 p1
      by_cases p2 : (c.path[0].toNat : Int) = 47
      · have HP : Hid (pathOf c defp = c.path) := if_neg (by rw [hg1]; rintro (h | h); exact p0 h; exact h p2)
        have p2' : ((c.path[0].toNat : Int) != 47) = false := by simp [p2]
        clear p0 hg1 p2
        go_wp2_with fail
        go_meet
        refine ⟨⟨false, rfl, HP.out⟩, ?_, ?_, ?_, ?_, ?_, ?_⟩
        · exact two_alloc w _ _
        · go_size
        · simp [go_sem]
        · simp [go_sem]
        · exact fun i => by simp [go_sem]
        · refine ⟨?_, ?_, ?_, ?_, ?_, ?_, ?_, ?_, ?_, ?_, ?_, ?_, ?_, ?_, ?_, ?_⟩ <;> simp [go_sem]
      · have HP : Hid (pathOf c defp = defp) := if_pos (Or.inr (by rw [hg1]; exact p2))
        have p2' : ((c.path[0].toNat : Int) != 47) = true := by simp [p2]
        clear p0 hg1 p2
        go_wp2_with fail
        go_meet
        refine ⟨⟨true, rfl, HP.out⟩, ?_, ?_, ?_, ?_, ?_, ?_⟩
        · exact two_alloc w _ _
        · go_size
        · simp [go_sem]
        · simp [go_sem]
        · exact fun i => by simp [go_sem]
        · refine ⟨?_, ?_, ?_, ?_, ?_, ?_, ?_, ?_, ?_, ?_, ?_, ?_, ?_, ?_, ?_, ?_⟩ <;> simp [go_sem]
  case rest => 
    obtain ⟨⟨tb, rfl, htb⟩, hbx, hszx, k0, k1, hlo, hrow⟩ := hcut
    have hlo4 := hlo 4
    have hcx := hc.below hbx hcb
    have x3 : wc.cell? ⟨cb, 3, none⟩ = some (.string c.path) := by simpa using hcx.at 3 _ rfl
    have hrow' := hrow
    obtain ⟨e0, e1, e2, e3, e4, e5, e6, e7, e8, e9, e10, e11, e12, e13, e14, e15⟩ := hrow
    go_upto_if 30 with (fail)
    go_cut [] (fun wy => Below w.heap.size w wy ∧ wy.heap.size = w.heap.size + 2 ∧ wy.cell? ⟨w.heap.size, 0, none⟩ = some (.int .i64 now) ∧ wy.cell? ⟨w.heap.size, 1, none⟩ = some (.int .i64 0) ∧ Loose wy (w.heap.size + 1) ∧
      EntAt wy (w.heap.size + 1) ⟨c.name, ⟨#[]⟩, ⟨#[]⟩, pathOf c defp, false, false, false, 0, 0, 0⟩ 0)
    case first =>
      have Hpt := Lib.hid htb
      clear htb
      cases tb
      · go_wp2_with fail
        go_meet
        rw [show pathOf c defp = c.path from Hpt.out]
        refine ⟨Below.setCell hbx (by simp) _, by go_size, by simp [go_sem, k0], by simp [go_sem, k1], (fun i => by simp [go_sem, hlo i]), ?_⟩
        refine ⟨?_, ?_, ?_, ?_, ?_, ?_, ?_, ?_, ?_, ?_, ?_, ?_, ?_, ?_, ?_, ?_⟩ <;> simp [go_sem, *]
      · go_wp2_with fail
        go_meet
        rw [show pathOf c defp = defp from Hpt.out]
        refine ⟨Below.setCell hbx (by simp) _, by go_size, by simp [go_sem, k0], by simp [go_sem, k1], (fun i => by simp [go_sem, hlo i]), ?_⟩
        refine ⟨?_, ?_, ?_, ?_, ?_, ?_, ?_, ?_, ?_, ?_, ?_, ?_, ?_, ?_, ?_, ?_⟩ <;> simp [go_sem, *]
    case rest => 
      clear hlo hlo4 hcx x3 hrow' htb hbx k0 k1 e0 e1 e2 e3 e4 e5 e6 e7 e8 e9 e10 e11 e12 e13 e14 e15 hszx
      obtain ⟨hbx, hszx, k0, k1, hlo, hrow⟩ := hcut
      have hcx := hc.below hbx hcb
      have x4 : wc.cell? ⟨cb, 4, none⟩ = some (.string c.domain) := by simpa using hcx.at 4 _ rfl
      have hrow' := hrow
      have hPx := h.below hbx hB
      have hJx := (hbx.cell (p := ⟨jb, 0, none⟩) hjb).trans hj
      have hGx := (hbx.cell (p := ⟨0, 0, none⟩) hw0).trans hg
      generalize hpth : pathOf c defp = pth at *
      have Hpth := Lib.hid hpth
      clear hpth
      cases hdt : domTy psl host c.domain with
      | none =>
        have HN : Hid (newEnt psl host defp now c = none) := by show _ = _; rw [newEnt, hdt]; rfl
        have Hdt := Lib.hid hdt
        clear hdt
        go_upto_region 5 with (fail)
        go_cut [12] (fun s12 wx => s12 = ev ∧ Below w.heap.size w wx ∧ w.heap.size + 2 ≤ wx.heap.size ∧ Loose wx (w.heap.size + 1) ∧ RowAt wx (w.heap.size + 1) 0 (entCells ⟨c.name, ⟨#[]⟩, ⟨#[]⟩, pth, false, false, false, 0, 0, 0⟩ 0))
        case first =>
          go_wp2_with fail
          refine (HDT _ hPx hJx hGx (by omega) (by omega) (by omega) hh hd h1 h2 hD).mono ?_
          rintro r w1 ⟨rfl, hb1⟩
          rw [Hdt.out]
          dsimp only [domRes]
          have hl1 := hlo.below hb1 (by omega)
          have hr1 := hrow.row.below hb1 (by omega)
          have q3 := hl1 3
          have q8 := hl1 8
          have q3' : w1.cell? ⟨w.heap.size + 1, 3, none⟩ = some (.string ⟨#[]⟩) := by simpa using hr1.at 3 _ rfl
          have q8' : w1.cell? ⟨w.heap.size + 1, 8, none⟩ = some (.bool false) := by simpa using hr1.at 8 _ rfl
          go_wp2
          go_meet
          have hsz := hb1.size
          refine ⟨hev.symm, ((hbx.trans (hb1.mono (by omega))).setCell (by simp) _).setCell (by simp) _, by simp; omega, (Loose.setCell (Loose.setCell hl1 _ _) _ _), (hr1.set 3 _).set 8 _⟩
        case rest =>
          obtain ⟨rfl, hby, hsy, hly, hry⟩ := hcut
          subst hev
          clear hlo hrow hrow' hbx hcx x4 hPx hJx hGx HDT h hj hg hc g0 g1 g3 g4 k0 k1 hszx
          go_wp2_with (first
            | (refine load_ent rfl _ rfl (w.heap.size + 1) rfl _ _ hry ?_)
            | (refine store_ent rfl _ _ rfl (w.heap.size + 1) rfl _ _ rfl hry rfl hly ?_; intro w5 hr5 hl5 hs5 hb5))
          refine bodyPost_ret (results_ent rfl _ _ (w.heap.size + 1) _ _ rfl hr5) rfl ?_
          unfold NewPost
          rw [HN.out]
          exact ⟨⟨_, _, rfl⟩, hby.trans (hb5 _ (by omega))⟩
      | some p =>
        obtain ⟨d, ho⟩ := p
        have hE : newEnt psl host defp now c = some (
          if c.maxAge < 0 then (⟨c.name, ⟨#[]⟩, d, pathOf c defp, false, false, ho, 0, 0, 0⟩, true)
          else if 0 < c.maxAge then (⟨c.name, c.value, d, pathOf c defp, c.secure, true, ho, now + c.maxAge, 0, 0⟩, false)
          else if c.expires = 0 then (⟨c.name, c.value, d, pathOf c defp, c.secure, false, ho, 253402300799, 0, 0⟩, false)
          else if now < c.expires then (⟨c.name, c.value, d, pathOf c defp, c.secure, true, ho, c.expires, 0, 0⟩, false)
          else (⟨c.name, ⟨#[]⟩, d, pathOf c defp, false, false, ho, 0, 0, 0⟩, true)) := by rw [newEnt, hdt]; rfl
        rw [Hpth.out] at hE
        have HE0 := Lib.hid hE
        clear hE
        have Hdt := Lib.hid hdt
        clear hdt
        go_upto_region 5 with (fail)
        go_cut [12] (fun s12 wx => s12 = .nilIface ∧ Below w.heap.size w wx ∧ w.heap.size + 2 ≤ wx.heap.size ∧ wx.cell? ⟨w.heap.size, 0, none⟩ = some (.int .i64 now) ∧ wx.cell? ⟨w.heap.size, 1, none⟩ = some (.int .i64 0) ∧ Loose wx (w.heap.size + 1) ∧ RowAt wx (w.heap.size + 1) 0 (entCells ⟨c.name, ⟨#[]⟩, d, pth, false, false, ho, 0, 0, 0⟩ 0))
        case first =>
          go_wp2_with fail
          refine (HDT _ hPx hJx hGx (by omega) (by omega) (by omega) hh hd h1 h2 hD).mono ?_
          rintro r w1 ⟨rfl, hb1⟩
          rw [Hdt.out]
          dsimp only [domRes]
          have hl1 := hlo.below hb1 (by omega)
          have hr1 := hrow.row.below hb1 (by omega)
          have hk0 := (hb1.cell (p := ⟨w.heap.size, 0, none⟩) (by simp; omega)).trans k0
          have hk1 := (hb1.cell (p := ⟨w.heap.size, 1, none⟩) (by simp; omega)).trans k1
          have q3 := hl1 3
          have q8 := hl1 8
          have q3' : w1.cell? ⟨w.heap.size + 1, 3, none⟩ = some (.string ⟨#[]⟩) := by simpa using hr1.at 3 _ rfl
          have q8' : w1.cell? ⟨w.heap.size + 1, 8, none⟩ = some (.bool false) := by simpa using hr1.at 8 _ rfl
          go_wp2
          go_meet
          have hsz := hb1.size
          refine ⟨rfl, ((hbx.trans (hb1.mono (by omega))).setCell (by simp) _).setCell (by simp) _, by simp; omega, by simp [go_sem, hk0], by simp [go_sem, hk1], (Loose.setCell (Loose.setCell hl1 _ _) _ _), (hr1.set 3 _).set 8 _⟩
        case rest =>
          clear hlo hrow hrow' hbx hcx x4 hPx hJx hGx k0 k1 hszx
          obtain ⟨rfl, hby, hsy, k0, k1, hly, hry⟩ := hcut
          have hcy := hc.below hby hcb
          have hc0 := hc
          clear HDT h hj hg hc g0 g1 g3 g4
          have hE := HE0.out
          clear HE0
          by_cases m1 : c.maxAge < 0
          · rw [if_pos m1] at hE
            have HE := Lib.hid hE
            clear hE
            have y7 : wc.cell? ⟨cb, 7, none⟩ = some (.int .i64 c.maxAge) := by simpa using hcy.at 7 _ rfl
            go_wp2_with (first
            | (refine load_ent rfl _ rfl (w.heap.size + 1) rfl _ _ hry ?_)
            | (refine store_ent rfl _ _ rfl (w.heap.size + 1) rfl _ _ rfl hry rfl hly ?_; intro w5 hr5 hl5 hs5 hb5))
            refine bodyPost_ret (results_ent rfl _ _ (w.heap.size + 1) _ _ rfl hr5) rfl ?_
            unfold NewPost
            rw [HE.out]
            exact ⟨rfl, hby.trans (hb5 _ (by omega))⟩
          · rw [if_neg m1] at hE
            have HE := Lib.hid hE
            clear hE
            have m1' : decide (c.maxAge < 0) = false := decide_eq_false m1
            have y7 : wc.cell? ⟨cb, 7, none⟩ = some (.int .i64 c.maxAge) := by simpa using hcy.at 7 _ rfl
            go_upto_if 59 with (fail)
            go_cut [] (fun wx => ∃ (exp : Int) (pers : Bool), newEnt psl host defp now c = some (⟨c.name, c.value, d, pth, c.secure, pers, ho, exp, 0, 0⟩, false) ∧ Below w.heap.size w wx ∧ w.heap.size + 2 ≤ wx.heap.size ∧ Loose wx (w.heap.size + 1) ∧
              RowAt wx (w.heap.size + 1) 0 (entCells ⟨c.name, ⟨#[]⟩, d, pth, false, pers, ho, exp, 0, 0⟩ 0))
            case first =>
              have hE := HE.out
              clear HE
              have q7 := hly 7
              have q9 := hly 9
              have q10 := hly 10
              have r7 : wc.cell? ⟨w.heap.size + 1, 7, none⟩ = some (.bool false) := by simpa using hry.at 7 _ rfl
              have r9 : wc.cell? ⟨w.heap.size + 1, 9, none⟩ = some (.int .i64 0) := by simpa using hry.at 9 _ rfl
              have r10 : wc.cell? ⟨w.heap.size + 1, 10, none⟩ = some (.int .i64 0) := by simpa using hry.at 10 _ rfl
              by_cases m2 : 0 < c.maxAge
              · rw [if_pos m2] at hE
                have HE := Lib.hid hE
                clear hE
                have m2' : decide (c.maxAge > 0) = true := decide_eq_true m2
                have HA := fun W => tAdd_any now c.maxAge W hnow ⟨m2, hm⟩
                have e71 : IntKind.i64.wrap (c.maxAge * 1000000000) = c.maxAge * 1000000000 := IntWalk.i64_in _ (by omega)
                unfold tv at HA
                have cbn1' : w.heap.size + 1 ≠ cb := Ne.symm cbn1
                have cbn' : w.heap.size ≠ cb := Ne.symm cbn
                go_wp2_with fail
                go_region_held3 (fun w' => w'.cell? ⟨w.heap.size, 0, none⟩ = some (.int .i64 now) ∧ w'.cell? ⟨w.heap.size, 1, none⟩ = some (.int .i64 0) ∧ w'.cell? ⟨cb, 7, none⟩ = some (.int .i64 c.maxAge)) (go_keep)
                  ((go_at_call 83; refine (HA _).mono ?_; rintro r w2 ⟨rfl, hb2'⟩; have hb2 : Below wc.heap.size wc w2 := ((Below.refl wc.heap.size wc).drew).trans hb2'; clear hb2'; have z0 := (hb2.cell (p := ⟨w.heap.size, 0, none⟩) (by simp; omega)).trans k0; have z1 := (hb2.cell (p := ⟨w.heap.size, 1, none⟩) (by simp; omega)).trans k1; have z7 := (hb2.cell (p := ⟨cb, 7, none⟩) (by simp; omega)).trans y7; have f9 := (hly.below hb2 (by omega)) 9; have f10 := (hly.below hb2 (by omega)) 10; have c9 := (hb2.cell (p := ⟨w.heap.size + 1, 9, none⟩) (by simp; omega)).trans r9; have c10 := (hb2.cell (p := ⟨w.heap.size + 1, 10, none⟩) (by simp; omega)).trans r10))
                have f7 := (hly.below hb2 (by omega)) 7
                have c7 := (hb2.cell (p := ⟨w.heap.size + 1, 7, none⟩) (by simp; omega)).trans r7
                have hl2 := hly.below hb2 (by omega)
                have hr2 := hry.below hb2 (by omega)
                have hs2 := hb2.size
                go_wp2_with fail
                go_meet
                refine ⟨_, _, HE.out, (((hby.trans (hb2.mono (by omega))).setCell (by simp) _).setCell (by simp) _).setCell (by simp) _, by simp; omega, ((Loose.setCell (Loose.setCell (Loose.setCell hl2 _ _) _ _) _ _)), ((hr2.set 9 _).set 10 _).set 7 _⟩
              · rw [if_neg m2] at hE
                have m2' : decide (c.maxAge > 0) = false := decide_eq_false m2
                have y5 : wc.cell? ⟨cb, 5, none⟩ = some (.int .i64 c.expires) := by simpa using hcy.at 5 _ rfl
                have y6 : wc.cell? ⟨cb, 6, none⟩ = some (.int .i64 0) := by simpa using hcy.at 6 _ rfl
                by_cases m3 : c.expires = 0
                · rw [if_pos m3] at hE
                  have HE := Lib.hid hE
                  clear hE
                  have HZ := fun W => tIsZero_any c.expires W
                  rw [decide_eq_true m3, m3] at HZ
                  rw [m3] at y5
                  have HO := fun W => endOfTime_any W
                  unfold tv at HZ HO
                  go_wp2_with fail
                  refine (HZ _).mono ?_
                  rintro r w2 ⟨rfl, hb2⟩
                  go_wp2_with fail
                  refine (HO _).mono ?_
                  rintro r w3 ⟨rfl, hb3⟩
                  have hb23 := hb2.trans (hb3.mono hb2.size)
                  have hs3 := hb23.size
                  have hl3 := hly.below hb23 (by omega)
                  have hr3 := hry.below hb23 (by omega)
                  have q7 := hl3 7
                  have q9 := hl3 9
                  have q10 := hl3 10
                  have r7 : w3.cell? ⟨w.heap.size + 1, 7, none⟩ = some (.bool false) := by simpa using hr3.at 7 _ rfl
                  have r9 : w3.cell? ⟨w.heap.size + 1, 9, none⟩ = some (.int .i64 0) := by simpa using hr3.at 9 _ rfl
                  have r10 : w3.cell? ⟨w.heap.size + 1, 10, none⟩ = some (.int .i64 0) := by simpa using hr3.at 10 _ rfl
                  go_wp2
                  go_meet
                  refine ⟨_, _, HE.out, (((hby.trans (hb23.mono (by omega))).setCell (by simp) _).setCell (by simp) _).setCell (by simp) _, by simp; omega, ((Loose.setCell (Loose.setCell (Loose.setCell hl3 _ _) _ _) _ _)), ((hr3.set 9 _).set 10 _).set 7 _⟩
                · rw [if_neg m3] at hE
                  have HZ := fun W => tIsZero_any c.expires W
                  rw [decide_eq_false m3] at HZ
                  have HB := fun W => tAfter_any c.expires now W
                  unfold tv at HZ HB
                  have cbn1' : w.heap.size + 1 ≠ cb := Ne.symm cbn1
                  have cbn' : w.heap.size ≠ cb := Ne.symm cbn
                  by_cases m4 : now < c.expires
                  · rw [if_pos m4] at hE
                    have HE := Lib.hid hE
                    clear hE
                    rw [decide_eq_true m4] at HB
                    clear q7 q9 q10 r7 r9 r10
                    go_wp2_with fail
                    refine (HZ _).mono ?_
                    rintro r w2 ⟨rfl, hb2⟩
                    have hs2 := hb2.size
                    have z0 := (hb2.cell (p := ⟨w.heap.size, 0, none⟩) (by simp; omega)).trans k0
                    have z1 := (hb2.cell (p := ⟨w.heap.size, 1, none⟩) (by simp; omega)).trans k1
                    have z5 := (hb2.cell (p := ⟨cb, 5, none⟩) (by simp; omega)).trans y5
                    have z6 := (hb2.cell (p := ⟨cb, 6, none⟩) (by simp; omega)).trans y6
                    go_wp2_with fail
                    go_region_held3 (fun w' => w'.cell? ⟨w.heap.size, 0, none⟩ = some (.int .i64 now) ∧ w'.cell? ⟨w.heap.size, 1, none⟩ = some (.int .i64 0) ∧ w'.cell? ⟨cb, 5, none⟩ = some (.int .i64 c.expires) ∧ w'.cell? ⟨cb, 6, none⟩ = some (.int .i64 0)) (go_keep)
                      ((go_at_call 57; refine (HB _).mono ?_; rintro r w3 ⟨rfl, hb3'⟩; have hb3 : Below w2.heap.size w2 w3 := ((Below.refl w2.heap.size w2).drew).trans hb3'; clear hb3'; have z0 := (hb3.cell (p := ⟨w.heap.size, 0, none⟩) (by simp; omega)).trans z0; have z1 := (hb3.cell (p := ⟨w.heap.size, 1, none⟩) (by simp; omega)).trans z1; have z5 := (hb3.cell (p := ⟨cb, 5, none⟩) (by simp; omega)).trans z5; have z6 := (hb3.cell (p := ⟨cb, 6, none⟩) (by simp; omega)).trans z6))
                    have hb23 := hb2.trans (hb3.mono hb2.size)
                    have hs3 := hb3.size
                    have hl3 := hly.below hb23 (by omega)
                    have hr3 := hry.below hb23 (by omega)
                    have q7 := hl3 7
                    have q9 := hl3 9
                    have q10 := hl3 10
                    have r7 : w3.cell? ⟨w.heap.size + 1, 7, none⟩ = some (.bool false) := by simpa using hr3.at 7 _ rfl
                    have r9 : w3.cell? ⟨w.heap.size + 1, 9, none⟩ = some (.int .i64 0) := by simpa using hr3.at 9 _ rfl
                    have r10 : w3.cell? ⟨w.heap.size + 1, 10, none⟩ = some (.int .i64 0) := by simpa using hr3.at 10 _ rfl
                    go_wp2_with fail
                    go_meet
                    refine ⟨_, _, HE.out, (((hby.trans (hb23.mono (by omega))).setCell (by simp) _).setCell (by simp) _).setCell (by simp) _, by simp; omega, ((Loose.setCell (Loose.setCell (Loose.setCell hl3 _ _) _ _) _ _)), ((hr3.set 9 _).set 10 _).set 7 _⟩
                  · rw [if_neg m4] at hE
                    have HE := Lib.hid hE
                    clear hE
                    rw [decide_eq_false m4] at HB
                    clear q7 q9 q10 r7 r9 r10
                    go_wp2_with fail
                    refine (HZ _).mono ?_
                    rintro r w2 ⟨rfl, hb2⟩
                    have hs2 := hb2.size
                    have z0 := (hb2.cell (p := ⟨w.heap.size, 0, none⟩) (by simp; omega)).trans k0
                    have z1 := (hb2.cell (p := ⟨w.heap.size, 1, none⟩) (by simp; omega)).trans k1
                    have z5 := (hb2.cell (p := ⟨cb, 5, none⟩) (by simp; omega)).trans y5
                    have z6 := (hb2.cell (p := ⟨cb, 6, none⟩) (by simp; omega)).trans y6
                    go_wp2_with fail
                    go_region_held3 (fun w' => w'.cell? ⟨w.heap.size, 0, none⟩ = some (.int .i64 now) ∧ w'.cell? ⟨w.heap.size, 1, none⟩ = some (.int .i64 0) ∧ w'.cell? ⟨cb, 5, none⟩ = some (.int .i64 c.expires) ∧ w'.cell? ⟨cb, 6, none⟩ = some (.int .i64 0)) (go_keep)
                      ((go_at_call 57; refine (HB _).mono ?_; rintro r w3 ⟨rfl, hb3'⟩; have hb3 : Below w2.heap.size w2 w3 := ((Below.refl w2.heap.size w2).drew).trans hb3'; clear hb3'; have z0 := (hb3.cell (p := ⟨w.heap.size, 0, none⟩) (by simp; omega)).trans z0; have z1 := (hb3.cell (p := ⟨w.heap.size, 1, none⟩) (by simp; omega)).trans z1; have z5 := (hb3.cell (p := ⟨cb, 5, none⟩) (by simp; omega)).trans z5; have z6 := (hb3.cell (p := ⟨cb, 6, none⟩) (by simp; omega)).trans z6))
                    have hb23 := hb2.trans (hb3.mono hb2.size)
                    have hs3 := hb3.size
                    have hl3 := hly.below hb23 (by omega)
                    have hr3 := hry.below hb23 (by omega)
                    go_wp2_with (first
                      | (refine load_ent rfl _ rfl (w.heap.size + 1) rfl _ _ hr3 ?_)
                      | (refine store_ent rfl _ _ rfl (w.heap.size + 1) rfl _ _ rfl hr3 rfl hl3 ?_; intro w5 hr5 hl5 hs5 hb5))
                    refine bodyPost_ret (results_ent rfl _ _ (w.heap.size + 1) _ _ rfl hr5) rfl ?_
                    unfold NewPost
                    rw [HE.out]
                    exact ⟨rfl, (hby.trans (hb23.mono (by omega))).trans (hb5 _ (by omega))⟩
            case rest =>
              obtain ⟨exp, pers, hE, hbz, hsz, hlz, hrz⟩ := hcut
              have HEz := Lib.hid hE
              have hcz : RowAt wc cb 0 (pkCells c) := hc0.below hbz hcb
              clear hE hcy hry hly HE y7 k0 k1 hsy hby
              have y1 : wc.cell? ⟨cb, 1, none⟩ = some (.string c.value) := by simpa using hcz.at 1 _ rfl
              have y2 : wc.cell? ⟨cb, 2, none⟩ = some (.bool false) := by simpa using hcz.at 2 _ rfl
              have y8 : wc.cell? ⟨cb, 8, none⟩ = some (.bool c.secure) := by simpa using hcz.at 8 _ rfl
              have y9 : wc.cell? ⟨cb, 9, none⟩ = some (.bool false) := by simpa using hcz.at 9 _ rfl
              have q1 := hlz 1
              have q2 := hlz 2
              have q5 := hlz 5
              have q6 := hlz 6
              have r1 : wc.cell? ⟨w.heap.size + 1, 1, none⟩ = some (.string ⟨#[]⟩) := by simpa using hrz.at 1 _ rfl
              have r2 : wc.cell? ⟨w.heap.size + 1, 2, none⟩ = some (.bool false) := by simpa using hrz.at 2 _ rfl
              have r5 : wc.cell? ⟨w.heap.size + 1, 5, none⟩ = some (.bool false) := by simpa using hrz.at 5 _ rfl
              have r6 : wc.cell? ⟨w.heap.size + 1, 6, none⟩ = some (.bool false) := by simpa using hrz.at 6 _ rfl
              have hrf := (((hrz.set 1 (.string c.value)).set 2 (.bool false)).set 5 (.bool c.secure)).set 6 (.bool false)
              have hlf := Loose.setCell (Loose.setCell (Loose.setCell (Loose.setCell hlz ⟨w.heap.size + 1, 1, none⟩ (.string c.value)) ⟨w.heap.size + 1, 2, none⟩ (.bool false)) ⟨w.heap.size + 1, 5, none⟩ (.bool c.secure)) ⟨w.heap.size + 1, 6, none⟩ (.bool false)
              change RowAt _ _ 0 (entCells ⟨c.name, c.value, d, pth, c.secure, pers, ho, exp, 0, 0⟩ 0) at hrf
              have cbn1' : w.heap.size + 1 ≠ cb := Ne.symm cbn1
              go_upto_region 24 with (fail)
              clear y1 y2 y8 y9 q1 q2 q5 q6 r1 r2 r5 r6
              go_wp2_with (first
                | (refine load_ent rfl _ rfl (w.heap.size + 1) rfl _ _ hrf ?_)
                | (refine store_ent rfl _ _ rfl (w.heap.size + 1) rfl _ _ rfl hrf rfl hlf ?_; intro w5 hr5 hl5 hs5 hb5))
              refine bodyPost_ret (results_ent rfl _ _ (w.heap.size + 1) _ _ rfl hr5) rfl ?_
              unfold NewPost
              rw [HEz.out]
              have hbf : Below w.heap.size w ((((wc.setCell ⟨w.heap.size + 1, 1, none⟩ (.string c.value)).setCell ⟨w.heap.size + 1, 2, none⟩ (.bool false)).setCell ⟨w.heap.size + 1, 5, none⟩ (.bool c.secure)).setCell ⟨w.heap.size + 1, 6, none⟩ (.bool false)) :=
                Below.setCell (Below.setCell (Below.setCell (Below.setCell hbz (Nat.le_succ _) _) (Nat.le_succ _) _) (Nat.le_succ _) _) (Nat.le_succ _) _
              exact ⟨rfl, hbf.trans (hb5 _ (Nat.le_succ _))⟩
end Go.Proofs.YtcofblepdfjhjaaGreatDoor

/- Walk: the reference's test of steps (Valid). -/
import Derived.Test.YtcofblepdfjhjaaGreatDoorMem
namespace Go.Proofs.YtcofblepdfjhjaaGreatDoor
open Go.RowKit
/-- A step's variable: its cells in a block of its own. -/
def VarAt (w : World) (b : Nat) (us : List Value) : Prop := RowAt w b 0 us ∧ b < w.heap.size
theorem VarAt.new (w : World) (us : List Value) (t : TypeId) : VarAt (w.alloc (.cells us.toArray t)) w.heap.size us :=
  ⟨fun i u hu => by rw [Nat.zero_add, World.cell?_alloc_new]; simpa using hu, by simp⟩
theorem VarAt.below {w w' : World} {b : Nat} {us : List Value} (h : VarAt w b us) (hb : Below w.heap.size w w') : VarAt w' b us := ⟨h.1.below hb h.2, Nat.lt_of_lt_of_le h.2 hb.size⟩
theorem var6 {w : World} {b : Nat} {u0 u1 u2 u3 u4 u5 : Value} (h : VarAt w b [u0, u1, u2, u3, u4, u5]) :
    w.cell? ⟨b, 0, none⟩ = some u0 ∧ w.cell? ⟨b, 1, none⟩ = some u1 ∧ w.cell? ⟨b, 2, none⟩ = some u2 ∧ w.cell? ⟨b, 3, none⟩ = some u3 ∧ w.cell? ⟨b, 4, none⟩ = some u4 ∧ w.cell? ⟨b, 5, none⟩ = some u5 := by
  have := row6 h.1
  simpa using this
theorem var7 {w : World} {b : Nat} {u0 u1 u2 u3 u4 u5 u6 : Value} (h : VarAt w b [u0, u1, u2, u3, u4, u5, u6]) :
    w.cell? ⟨b, 0, none⟩ = some u0 ∧ w.cell? ⟨b, 1, none⟩ = some u1 ∧ w.cell? ⟨b, 2, none⟩ = some u2 ∧ w.cell? ⟨b, 3, none⟩ = some u3 ∧ w.cell? ⟨b, 4, none⟩ = some u4 ∧ w.cell? ⟨b, 5, none⟩ = some u5 ∧ w.cell? ⟨b, 6, none⟩ = some u6 := by
  have := row7 h.1
  simpa using this
set_option maxRecDepth 100000 in
set_option maxHeartbeats 8000000 in
theorem Valid_any (listed : Bool) (v vs : Value) (sufs : List ByteArray) (ss : List PStep) (B : Nat) (w : World) (hS : StrsAt w B v sufs) (hT : StepsAt w B vs ss) (hB : B ≤ w.heap.size)
    (hl1 : sufs.length ≤ 2147483647) (hsz1 : ∀ x ∈ sufs, x.size ≤ 2147483647) (hl2 : ss.length ≤ 9223372036854775807) (hsz2 : ∀ x ∈ ss, StFit x) :
    Calls Tryz.prog 9 #[.bool listed, v, vs] w fun e w' => e = .returned (.bool (validB listed sufs ss)) ∧ Below w.heap.size w w' := by
  obtain ⟨ao, b, off, cap, rfl, ha, hc⟩ := hS.ex
  have HT := Lib.hid hT
  have HC := Lib.hid hc
  have HS := Lib.hid hsz1
  have HS2 := Lib.hid hsz2
  have HA := Lib.hid ha
  obtain ⟨cv, hT1, hcv⟩ := hT.ex
  obtain ⟨ao2, b2, off2, cap2, rfl, ha2, hc2⟩ := hT1.ex
  have HC2 := Lib.hid hc2
  have HA2 := Lib.hid ha2
  have HCV := Lib.hid hcv
  clear hc hsz1 hsz2 ha hS hT hT1 hcv hc2 ha2
  go_enter Tryz.func9, Tryz.ntmps9
  go_wp2
  go_loopw [18] (fun i wr => ∃ k : Nat, k ≤ sufs.length ∧ i = .int .i64 k ∧ Below w.heap.size w wr ∧ Hid (validB listed sufs ss = ((sufs.drop k).all sufOK && stepsOK listed 1 ss && decide (ss.length ≤ 64)))) (fun i _ => sufs.length - (intOf i).toNat)
  case atStart => exact ⟨0, Nat.zero_le _, rfl, Below.refl _ _, rfl⟩
  case round =>
    obtain ⟨k, hk, rfl, hb, hrel⟩ := hrel
    by_cases hlt : k < sufs.length
    · have hrel' : Hid (validB listed sufs ss = (sufOK sufs[k] && (sufs.drop (k + 1)).all sufOK && stepsOK listed 1 ss && decide (ss.length ≤ 64))) := by show _ = _; rw [hrel.out, all_drop _ sufs k hlt]
      obtain ⟨ha1, hb2⟩ := HA.out (by omega)
      have hks := HS.out sufs[k] (List.getElem_mem hlt)
      have hcell := (hb.cell (p := ⟨b, off + k, none⟩) (by simp; omega)).trans (strs_cell HC.out k hlt)
      have hsz := hb.size
      subst ha1
      clear hrel
      generalize sufs[k] = x at *
      go_wp2_with fail
      refine (isHost_any x _ (by omega)).mono ?_
      rintro e w1 ⟨rfl, hb1⟩
      have hbb := hb.trans (hb1.mono hsz)
      clear hb hb1 hcell hsz
      cases hH : isHostB (lst x) with
      | false =>
        have HH := Lib.hid hH
        clear hH
        go_wp2_with fail
        go_ret
        exact ⟨ret_bool (by rw [hrel'.out, sufOK, HH.out]; rfl), hbb⟩
      | true =>
        have HH := Lib.hid hH
        clear hH
        go_wp2_with fail
        refine (isAddress_any x _ (by omega)).mono ?_
        rintro e w2 ⟨rfl, hb1⟩
        have hbb2 := hbb.trans (hb1.mono hbb.size)
        clear hbb hb1
        cases hA : isAddrB (lst x) with
        | true =>
          have HHA := Lib.hid hA
          clear hA
          go_wp2_with fail
          go_ret
          exact ⟨ret_bool (by rw [hrel'.out, sufOK, HH.out, HHA.out]; rfl), hbb2⟩
        | false =>
          have HHA := Lib.hid hA
          clear hA
          go_wp2_with fail
          refine (lower_any x _ (by omega)).mono ?_
          rintro e w3 ⟨rfl, hb1⟩
          have hbb := hbb2.trans (hb1.mono hbb2.size)
          clear hbb2 hb1
          have HL0 : Hid (((str (low (lst x))).toList == x.toList) = decide (low (lst x) = lst x)) := by show _ = _; rw [beq_lst, lst_str]
          cases hL : ((str (low (lst x))).toList == x.toList) with
          | false =>
            have HL : Hid (decide (low (lst x) = lst x) = false) := by show _ = _; rw [← HL0.out]; exact hL
            go_wp2_with fail
            go_ret
            exact ⟨ret_bool (by rw [hrel'.out, sufOK, HL.out]; simp), hbb⟩
          | true =>
            have HL : Hid (decide (low (lst x) = lst x) = true) := by show _ = _; rw [← HL0.out]; exact hL
            go_wp2_with fail
            go_roundw
            case rel => exact ⟨k + 1, by omega, by go_num, hbb, by show _ = _; rw [hrel'.out, sufOK, HH.out, HHA.out, HL.out]; rfl⟩
            case measure => simp [intOf]; omega
    · have HV : Hid (validB listed sufs ss = (stepsOK listed 1 ss && decide (ss.length ≤ 64))) := by show _ = _; rw [hrel.out, all_dropped _ sufs k hlt]; rfl
      clear hrel HC HS HA
      have hsw := hb.size
      go_wp2_with fail
      go_loopw [9, 38] (fun tv i wr2 => ∃ (q : Nat) (t : Int), q ≤ ss.length ∧ i = .int .i64 q ∧ tv = .int .i64 t ∧ Below w.heap.size w wr2 ∧ Hid (validB listed sufs ss = (stepsOK listed t (ss.drop q) && decide (ss.length ≤ 64)))) (fun _ i _ => ss.length - (intOf i).toNat)
      case atStart => exact ⟨0, 1, Nat.zero_le _, rfl, rfl, hb, HV.out⟩
      case round =>
        obtain ⟨q, t, hq, rfl, rfl, hbq, hrq⟩ := hrel
        clear hb HV hsw
        by_cases hql : q < ss.length
        · have hrq' : Hid (validB listed sufs ss = (stOK t ss[q] && ss[q].cookies.all (ckOK listed) && stepsOK listed ss[q].tm (ss.drop (q + 1)) && decide (ss.length ≤ 64))) := by
            show _ = _; rw [hrq.out, List.drop_eq_getElem_cons hql, stepsOK]
          obtain ⟨ha1, hb3⟩ := HA2.out (by omega)
          have hfit := HS2.out ss[q] (List.getElem_mem hql)
          have hrow := (steps_row HC2.out q hql).below hbq (by omega)
          have hck := HCV.out q ss[q] (List.getElem?_eq_getElem hql)
          obtain ⟨q0, q1, q2, q3, q4, q5⟩ := row6 hrow
          have hsz := hbq.size
          subst ha1
          clear hrq hrow
          generalize ss[q] = x at *
          generalize cv q = u at *
          obtain ⟨ao3, b4, off3, cap3, hu, ha3, hc3⟩ := hck.ex
          have HC3 := Lib.hid hc3
          have HA3 := Lib.hid ha3
          clear hc3 ha3 hck
          subst hu
          obtain ⟨hf1, hf2, hf3, hf4, ⟨ht1, ht2⟩, hf6⟩ := hfit
          have HF6 := Lib.hid hf6
          clear hf6
          have hv0 := VarAt.new wr [.bool x.set, .int .i64 x.tm, .string x.scheme, .string x.host, .string x.path, .slice ao3 x.cookies.length cap3] 32
          have hbn := hbq.alloc hsz (.cells #[.bool x.set, .int .i64 x.tm, .string x.scheme, .string x.host, .string x.path, .slice ao3 x.cookies.length cap3] 32)
          have HVN := Lib.hid hv0
          have HBN := Lib.hid hbn
          clear hv0 hbn
          go_wp2_with fail
          refine (split_any x.host _ (by omega)).mono ?_
          have hspl := splitB_len x.host
          have hpl0 : (str (splitB (lst x.host)).2).size ≤ 9223372036854775807 := by
            have := lst_len x.host
            rw [str_size, splitB]
            split
            · simp
            · simp; omega
          have eh := lst_str (splitB (lst x.host)).1
          have ep := lst_str (splitB (lst x.host)).2
          rintro e w1 ⟨rfl, hb1⟩
          have HB1 := Lib.hid (HBN.out.trans (hb1.mono HBN.out.size))
          have HV1 := Lib.hid (HVN.out.below hb1)
          clear HBN HVN hb1 q0 q1 q2 q3 q4 q5 hbq hsz
          generalize wr.heap.size = BX at *
          obtain ⟨v0, v1, v2, v3, v4, v5⟩ := var6 HV1.out
          generalize str (splitB (lst x.host)).1 = ho at *
          generalize str (splitB (lst x.host)).2 = po at *
          have EH := Lib.hid eh
          have EP := Lib.hid ep
          clear eh ep
          by_cases m1a : x.tm < t
          · have m1 : Hid (decide (t ≤ x.tm ∧ x.tm ≤ 4294967296) = false) := by show _ = _; rw [decide_eq_false_iff_not]; omega
            go_wp2_with fail
            go_ret
            exact ⟨ret_bool (by rw [hrq'.out, stOK, m1.out]; simp), HB1.out⟩
          · by_cases m2a : 4294967296 < x.tm
            · have m1 : Hid (decide (t ≤ x.tm ∧ x.tm ≤ 4294967296) = false) := by show _ = _; rw [decide_eq_false_iff_not]; omega
              go_wp2_with fail
              go_ret
              exact ⟨ret_bool (by rw [hrq'.out, stOK, m1.out]; simp), HB1.out⟩
            · have m1 : Hid (decide (t ≤ x.tm ∧ x.tm ≤ 4294967296) = true) := by show _ = _; rw [decide_eq_true_iff]; omega
              go_wp2_with fail
              refine (isHost_any ho _ (by omega)).mono ?_
              rintro e w2 ⟨rfl, hb2⟩
              have HB2 := Lib.hid (HB1.out.trans (hb2.mono HB1.out.size))
              have HV2 := Lib.hid (HV1.out.below hb2)
              clear HB1 HV1 hb2 v0 v1 v2 v3 v4 v5
              obtain ⟨v0, v1, v2, v3, v4, v5⟩ := var6 HV2.out
              cases hm3 : isHostB (lst ho) with
              | false =>
                have m3 := Lib.hid ((congrArg isHostB EH.out).symm.trans hm3)
                clear hm3
                go_wp2_with fail
                go_ret
                exact ⟨ret_bool (by rw [hrq'.out, stOK, m3.out]; simp), HB2.out⟩
              | true =>
                have m3 := Lib.hid ((congrArg isHostB EH.out).symm.trans hm3)
                clear hm3
                go_wp2_with fail
                refine (digits_any po _ hpl0).mono ?_
                rintro e w' ⟨rfl, rfl⟩
                cases hm4 : digB (lst po) with
                | false =>
                  have m5 : Hid (portOK (splitB (lst x.host)).2 = false) := by show _ = _; rw [← EP.out, portOK, hm4]; rfl
                  clear hm4
                  go_wp2_with fail
                  go_ret
                  exact ⟨ret_bool (by rw [hrq'.out, stOK, m5.out]; simp), HB2.out⟩
                | true =>
                  have hpz := lst_len po
                  cases hg : (!Op.bytesLess po.toList [54, 53, 53, 51, 53] && !(po.toList == [54, 53, 53, 51, 53])) with
                  | true =>
                    by_cases m5a : po.size = 5
                    · have m5' : ((po.size : Int) == 5) = true := by simp; omega
                      have m5 : Hid (portOK (splitB (lst x.host)).2 = false) := by show _ = _; rw [← EP.out, portOK, gtB, ← toList_lst, hg, toList_lst, hpz, decide_eq_true m5a]; simp
                      clear hm4 hpz
                      go_wp2_with fail
                      go_ret
                      exact ⟨ret_bool (by rw [hrq'.out, stOK, m5.out]; simp), HB2.out⟩
                    · have m5' : ((po.size : Int) == 5) = false := by simp; omega
                      have m5 : Hid (portOK (splitB (lst x.host)).2 = true) := by show _ = _; rw [← EP.out, portOK, hm4, hpz, decide_eq_false m5a]; simp
                      clear hm4 hpz
                      go_wp2_with fail
                      refine (isPath_any x.path _ (by omega)).mono ?_
                      rintro e w' ⟨rfl, rfl⟩
                      cases hm6 : isPathB (lst x.path) with
                      | false =>
                        have m6 := Lib.hid hm6
                        clear hm6
                        go_wp2_with fail
                        go_ret
                        exact ⟨ret_bool (by rw [hrq'.out, stOK, m6.out]; simp), HB2.out⟩
                      | true =>
                        have m6 := Lib.hid hm6
                        clear hm6
                        by_cases m7a : 64 < x.cookies.length
                        · have m7 : Hid (decide (x.cookies.length ≤ 64) = false) := by show _ = _; rw [decide_eq_false_iff_not]; omega
                          go_wp2_with fail
                          go_ret
                          exact ⟨ret_bool (by rw [hrq'.out, stOK, m7.out]; simp), HB2.out⟩
                        · have m7 : Hid (decide (x.cookies.length ≤ 64) = true) := by show _ = _; rw [decide_eq_true_iff]; omega
                          have hbz := HB2.out
                          have HVz := HV2
                          clear HB2 HV2
                          go_wp2_with fail
                          go_loopw [95] (fun i wr3 => ∃ p : Nat, p ≤ x.cookies.length ∧ i = .int .i64 p ∧ Below w.heap.size w wr3 ∧ VarAt wr3 BX [.bool x.set, .int .i64 x.tm, .string x.scheme, .string x.host, .string x.path, .slice ao3 x.cookies.length cap3] ∧ Hid (validB listed sufs ss = ((x.cookies.drop p).all (ckOK listed) && stepsOK listed x.tm (ss.drop (q + 1)) && decide (ss.length ≤ 64)))) (fun i _ => x.cookies.length - (intOf i).toNat)
                          case atStart => exact ⟨0, Nat.zero_le _, rfl, hbz, HVz.out, by show _ = _; rw [hrq'.out, stOK, m1.out, m3.out, m5.out, m6.out, m7.out]; simp⟩
                          case round =>
                            obtain ⟨p, hp, rfl, hbp, hvp, hrp⟩ := hrel
                            clear hbz HVz
                            have HVP := Lib.hid hvp
                            clear hvp
                            by_cases hpl : p < x.cookies.length
                            · have hrp' : Hid (validB listed sufs ss = (ckOK listed x.cookies[p] && (x.cookies.drop (p + 1)).all (ckOK listed) && stepsOK listed x.tm (ss.drop (q + 1)) && decide (ss.length ≤ 64))) := by show _ = _; rw [hrp.out, all_drop _ x.cookies p hpl]
                              obtain ⟨ha4, hb6⟩ := HA3.out (by omega)
                              have hrow := (cookies_row HC3.out p hpl).below hbp (by omega)
                              obtain ⟨q0, q1, q2, q3, q4, q5, q6⟩ := row7 hrow
                              obtain ⟨hy1, hy2, hy3, hy4, ⟨hy5, hy6⟩, ⟨hy7, hy8⟩⟩ := HF6.out x.cookies[p] (List.getElem_mem hpl)
                              have hsz := hbp.size
                              subst ha4
                              clear hrp hrow
                              generalize x.cookies[p] = y at *
                              have HVk := Lib.hid (VarAt.new wr [.string y.name, .string y.value, .string y.domain, .string y.path, .int .i64 y.maxAge, .int .i64 y.expires, .bool y.secure] 47)
                              have HBK := Lib.hid (hbp.alloc hsz (.cells #[.string y.name, .string y.value, .string y.domain, .string y.path, .int .i64 y.maxAge, .int .i64 y.expires, .bool y.secure] 47))
                              have HVK := Lib.hid (HVP.out.below ((Below.refl _ _).alloc (Nat.le_refl _) (.cells #[.string y.name, .string y.value, .string y.domain, .string y.path, .int .i64 y.maxAge, .int .i64 y.expires, .bool y.secure] 47)))
                              clear hbp HVP
                              by_cases c1 : y.name.size = 0
                              · have c1' : y.name.toList.isEmpty = true := by rw [empty_lst]; simp [← size_zero, c1]
                                have n1 : Hid (decide (lst y.name ≠ []) = false) := by show _ = _; rw [decide_eq_false_iff_not]; exact fun h => h ((size_zero _).1 c1)
                                clear c1
                                go_wp2_with fail
                                go_ret
                                exact ⟨ret_bool (by rw [hrp'.out, ckOK, n1.out]; simp), HBK.out⟩
                              · have c1' : y.name.toList.isEmpty = false := by rw [empty_lst]; simp [← size_zero, c1]
                                have n1 : Hid (decide (lst y.name ≠ []) = true) := by show _ = _; rw [decide_eq_true_iff]; exact fun h => c1 ((size_zero _).2 h)
                                clear c1
                                go_wp2_with fail
                                refine (isWord_any y.name _ (by omega)).mono ?_
                                rintro e w' ⟨rfl, rfl⟩
                                cases hn2 : allWord (lst y.name) with
                                | false =>
                                  have n2 := Lib.hid hn2
                                  clear hn2
                                  go_wp2_with fail
                                  go_ret
                                  exact ⟨ret_bool (by rw [hrp'.out, ckOK, n2.out]; simp), HBK.out⟩
                                | true =>
                                  have n2 := Lib.hid hn2
                                  clear hn2
                                  go_wp2_with fail
                                  refine (isWord_any y.value _ (by omega)).mono ?_
                                  rintro e w' ⟨rfl, rfl⟩
                                  cases hn3 : allWord (lst y.value) with
                                  | false =>
                                    have n3 := Lib.hid hn3
                                    clear hn3
                                    go_wp2_with fail
                                    go_ret
                                    exact ⟨ret_bool (by rw [hrp'.out, ckOK, n3.out]; simp), HBK.out⟩
                                  | true =>
                                    have n3 := Lib.hid hn3
                                    clear hn3
                                    go_wp2_with fail
                                    refine (plainDomain_any listed y.domain _ (by omega)).mono ?_
                                    rintro e w5 ⟨rfl, hb5⟩
                                    have hbc := HBK.out.trans (hb5.mono HBK.out.size)
                                    have HVc := Lib.hid (HVK.out.below hb5)
                                    obtain ⟨s0, s1, s2, s3, s4, s5, s6⟩ := var7 (HVk.out.below hb5)
                                    clear HBK HVK HVk hb5
                                    cases hn4 : plainDomB listed (lst y.domain) with
                                    | false =>
                                      have n4 := Lib.hid hn4
                                      clear hn4
                                      go_wp2_with fail
                                      go_ret
                                      exact ⟨ret_bool (by rw [hrp'.out, ckOK, n4.out]; simp), hbc⟩
                                    | true =>
                                      have n4 := Lib.hid hn4
                                      clear hn4
                                      by_cases c5 : 4294967296 < y.maxAge
                                      · have n5 : Hid (decide (y.maxAge ≤ 4294967296) = false) := by show _ = _; rw [decide_eq_false_iff_not]; omega
                                        go_wp2_with fail
                                        go_ret
                                        exact ⟨ret_bool (by rw [hrp'.out, ckOK, n5.out]; simp), hbc⟩
                                      · have n5 : Hid (decide (y.maxAge ≤ 4294967296) = true) := by show _ = _; rw [decide_eq_true_iff]; omega
                                        by_cases c6 : y.expires < 0
                                        · have n6 : Hid (decide (0 ≤ y.expires ∧ y.expires ≤ 4294967296) = false) := by show _ = _; rw [decide_eq_false_iff_not]; omega
                                          go_wp2_with fail
                                          go_ret
                                          exact ⟨ret_bool (by rw [hrp'.out, ckOK, n6.out]; simp), hbc⟩
                                        · by_cases c7 : 4294967296 < y.expires
                                          · have n6 : Hid (decide (0 ≤ y.expires ∧ y.expires ≤ 4294967296) = false) := by show _ = _; rw [decide_eq_false_iff_not]; omega
                                            go_wp2_with fail
                                            go_ret
                                            exact ⟨ret_bool (by rw [hrp'.out, ckOK, n6.out]; simp), hbc⟩
                                          · have n6 : Hid (decide (0 ≤ y.expires ∧ y.expires ≤ 4294967296) = true) := by show _ = _; rw [decide_eq_true_iff]; omega
                                            go_wp2_with fail
                                            refine (isPath_any y.path _ (by omega)).mono ?_
                                            rintro e w' ⟨rfl, rfl⟩
                                            cases hn7 : isPathB (lst y.path) with
                                            | true =>
                                              have n7 := Lib.hid hn7
                                              clear hn7
                                              go_wp2_with fail
                                              go_roundw
                                              case rel => exact ⟨p + 1, by omega, by go_num, hbc, HVc.out, by show _ = _; rw [hrp'.out, ckOK, n1.out, n2.out, n3.out, n4.out, n5.out, n6.out, n7.out]; rfl⟩
                                              case measure => simp [intOf]; omega
                                            | false =>
                                              have hp0 : 0 < y.path.size := by
                                                by_cases hz : y.path.size = 0
                                                · rw [(size_zero _).1 hz] at hn7; cases hn7
                                                · omega
                                              have n7 := Lib.hid hn7
                                              clear hn7
                                              have hg0 := getD_lst y.path 0 hp0
                                              by_cases c8 : ((y.path[0]'hp0).toNat : Int) = 47
                                              · have c8' : (((y.path[0]'hp0).toNat : Int) == 47) = true := by simpa using c8
                                                have n8 : Hid (decide (((lst y.path).getD 0 0).toNat ≠ 47) = false) := by show _ = _; rw [hg0, decide_eq_false_iff_not]; omega
                                                clear hg0 c8
                                                go_wp2_with fail
                                                go_ret
                                                exact ⟨ret_bool (by rw [hrp'.out, ckOK, n7.out, n8.out]; simp), hbc⟩
                                              · have c8' : (((y.path[0]'hp0).toNat : Int) == 47) = false := by simpa using c8
                                                have n8 : Hid (decide (((lst y.path).getD 0 0).toNat ≠ 47) = true) := by show _ = _; rw [hg0, decide_eq_true_iff]; omega
                                                clear hg0 c8
                                                go_wp2_with fail
                                                go_roundw
                                                case rel => exact ⟨p + 1, by omega, by go_num, hbc, HVc.out, by show _ = _; rw [hrp'.out, ckOK, n1.out, n2.out, n3.out, n4.out, n5.out, n6.out, n7.out, n8.out]; rfl⟩
                                                case measure => simp [intOf]; omega
                            · have hre : Hid (validB listed sufs ss = (stepsOK listed x.tm (ss.drop (q + 1)) && decide (ss.length ≤ 64))) := by show _ = _; rw [hrp.out, all_dropped _ x.cookies p hpl]; rfl
                              clear hrp
                              go_wp2_with fail
                              go_roundw
                              case rel => exact ⟨q + 1, x.tm, by omega, by go_num, rfl, hbp, hre.out⟩
                              case measure => simp [intOf]; omega
                  | false =>
                    have m5 : Hid (portOK (splitB (lst x.host)).2 = true) := by show _ = _; rw [← EP.out, portOK, hm4, gtB, ← toList_lst, hg]; rfl
                    clear hm4 hpz
                    go_wp2_with fail
                    refine (isPath_any x.path _ (by omega)).mono ?_
                    rintro e w' ⟨rfl, rfl⟩
                    cases hm6 : isPathB (lst x.path) with
                    | false =>
                      have m6 := Lib.hid hm6
                      clear hm6
                      go_wp2_with fail
                      go_ret
                      exact ⟨ret_bool (by rw [hrq'.out, stOK, m6.out]; simp), HB2.out⟩
                    | true =>
                      have m6 := Lib.hid hm6
                      clear hm6
                      by_cases m7a : 64 < x.cookies.length
                      · have m7 : Hid (decide (x.cookies.length ≤ 64) = false) := by show _ = _; rw [decide_eq_false_iff_not]; omega
                        go_wp2_with fail
                        go_ret
                        exact ⟨ret_bool (by rw [hrq'.out, stOK, m7.out]; simp), HB2.out⟩
                      · have m7 : Hid (decide (x.cookies.length ≤ 64) = true) := by show _ = _; rw [decide_eq_true_iff]; omega
                        have hbz := HB2.out
                        have HVz := HV2
                        clear HB2 HV2
                        go_wp2_with fail
                        go_loopw [95] (fun i wr3 => ∃ p : Nat, p ≤ x.cookies.length ∧ i = .int .i64 p ∧ Below w.heap.size w wr3 ∧ VarAt wr3 BX [.bool x.set, .int .i64 x.tm, .string x.scheme, .string x.host, .string x.path, .slice ao3 x.cookies.length cap3] ∧ Hid (validB listed sufs ss = ((x.cookies.drop p).all (ckOK listed) && stepsOK listed x.tm (ss.drop (q + 1)) && decide (ss.length ≤ 64)))) (fun i _ => x.cookies.length - (intOf i).toNat)
                        case atStart => exact ⟨0, Nat.zero_le _, rfl, hbz, HVz.out, by show _ = _; rw [hrq'.out, stOK, m1.out, m3.out, m5.out, m6.out, m7.out]; simp⟩
                        case round =>
                          obtain ⟨p, hp, rfl, hbp, hvp, hrp⟩ := hrel
                          clear hbz HVz
                          have HVP := Lib.hid hvp
                          clear hvp
                          by_cases hpl : p < x.cookies.length
                          · have hrp' : Hid (validB listed sufs ss = (ckOK listed x.cookies[p] && (x.cookies.drop (p + 1)).all (ckOK listed) && stepsOK listed x.tm (ss.drop (q + 1)) && decide (ss.length ≤ 64))) := by show _ = _; rw [hrp.out, all_drop _ x.cookies p hpl]
                            obtain ⟨ha4, hb6⟩ := HA3.out (by omega)
                            have hrow := (cookies_row HC3.out p hpl).below hbp (by omega)
                            obtain ⟨q0, q1, q2, q3, q4, q5, q6⟩ := row7 hrow
                            obtain ⟨hy1, hy2, hy3, hy4, ⟨hy5, hy6⟩, ⟨hy7, hy8⟩⟩ := HF6.out x.cookies[p] (List.getElem_mem hpl)
                            have hsz := hbp.size
                            subst ha4
                            clear hrp hrow
                            generalize x.cookies[p] = y at *
                            have HVk := Lib.hid (VarAt.new wr [.string y.name, .string y.value, .string y.domain, .string y.path, .int .i64 y.maxAge, .int .i64 y.expires, .bool y.secure] 47)
                            have HBK := Lib.hid (hbp.alloc hsz (.cells #[.string y.name, .string y.value, .string y.domain, .string y.path, .int .i64 y.maxAge, .int .i64 y.expires, .bool y.secure] 47))
                            have HVK := Lib.hid (HVP.out.below ((Below.refl _ _).alloc (Nat.le_refl _) (.cells #[.string y.name, .string y.value, .string y.domain, .string y.path, .int .i64 y.maxAge, .int .i64 y.expires, .bool y.secure] 47)))
                            clear hbp HVP
                            by_cases c1 : y.name.size = 0
                            · have c1' : y.name.toList.isEmpty = true := by rw [empty_lst]; simp [← size_zero, c1]
                              have n1 : Hid (decide (lst y.name ≠ []) = false) := by show _ = _; rw [decide_eq_false_iff_not]; exact fun h => h ((size_zero _).1 c1)
                              clear c1
                              go_wp2_with fail
                              go_ret
                              exact ⟨ret_bool (by rw [hrp'.out, ckOK, n1.out]; simp), HBK.out⟩
                            · have c1' : y.name.toList.isEmpty = false := by rw [empty_lst]; simp [← size_zero, c1]
                              have n1 : Hid (decide (lst y.name ≠ []) = true) := by show _ = _; rw [decide_eq_true_iff]; exact fun h => c1 ((size_zero _).2 h)
                              clear c1
                              go_wp2_with fail
                              refine (isWord_any y.name _ (by omega)).mono ?_
                              rintro e w' ⟨rfl, rfl⟩
                              cases hn2 : allWord (lst y.name) with
                              | false =>
                                have n2 := Lib.hid hn2
                                clear hn2
                                go_wp2_with fail
                                go_ret
                                exact ⟨ret_bool (by rw [hrp'.out, ckOK, n2.out]; simp), HBK.out⟩
                              | true =>
                                have n2 := Lib.hid hn2
                                clear hn2
                                go_wp2_with fail
                                refine (isWord_any y.value _ (by omega)).mono ?_
                                rintro e w' ⟨rfl, rfl⟩
                                cases hn3 : allWord (lst y.value) with
                                | false =>
                                  have n3 := Lib.hid hn3
                                  clear hn3
                                  go_wp2_with fail
                                  go_ret
                                  exact ⟨ret_bool (by rw [hrp'.out, ckOK, n3.out]; simp), HBK.out⟩
                                | true =>
                                  have n3 := Lib.hid hn3
                                  clear hn3
                                  go_wp2_with fail
                                  refine (plainDomain_any listed y.domain _ (by omega)).mono ?_
                                  rintro e w5 ⟨rfl, hb5⟩
                                  have hbc := HBK.out.trans (hb5.mono HBK.out.size)
                                  have HVc := Lib.hid (HVK.out.below hb5)
                                  obtain ⟨s0, s1, s2, s3, s4, s5, s6⟩ := var7 (HVk.out.below hb5)
                                  clear HBK HVK HVk hb5
                                  cases hn4 : plainDomB listed (lst y.domain) with
                                  | false =>
                                    have n4 := Lib.hid hn4
                                    clear hn4
                                    go_wp2_with fail
                                    go_ret
                                    exact ⟨ret_bool (by rw [hrp'.out, ckOK, n4.out]; simp), hbc⟩
                                  | true =>
                                    have n4 := Lib.hid hn4
                                    clear hn4
                                    by_cases c5 : 4294967296 < y.maxAge
                                    · have n5 : Hid (decide (y.maxAge ≤ 4294967296) = false) := by show _ = _; rw [decide_eq_false_iff_not]; omega
                                      go_wp2_with fail
                                      go_ret
                                      exact ⟨ret_bool (by rw [hrp'.out, ckOK, n5.out]; simp), hbc⟩
                                    · have n5 : Hid (decide (y.maxAge ≤ 4294967296) = true) := by show _ = _; rw [decide_eq_true_iff]; omega
                                      by_cases c6 : y.expires < 0
                                      · have n6 : Hid (decide (0 ≤ y.expires ∧ y.expires ≤ 4294967296) = false) := by show _ = _; rw [decide_eq_false_iff_not]; omega
                                        go_wp2_with fail
                                        go_ret
                                        exact ⟨ret_bool (by rw [hrp'.out, ckOK, n6.out]; simp), hbc⟩
                                      · by_cases c7 : 4294967296 < y.expires
                                        · have n6 : Hid (decide (0 ≤ y.expires ∧ y.expires ≤ 4294967296) = false) := by show _ = _; rw [decide_eq_false_iff_not]; omega
                                          go_wp2_with fail
                                          go_ret
                                          exact ⟨ret_bool (by rw [hrp'.out, ckOK, n6.out]; simp), hbc⟩
                                        · have n6 : Hid (decide (0 ≤ y.expires ∧ y.expires ≤ 4294967296) = true) := by show _ = _; rw [decide_eq_true_iff]; omega
                                          go_wp2_with fail
                                          refine (isPath_any y.path _ (by omega)).mono ?_
                                          rintro e w' ⟨rfl, rfl⟩
                                          cases hn7 : isPathB (lst y.path) with
                                          | true =>
                                            have n7 := Lib.hid hn7
                                            clear hn7
                                            go_wp2_with fail
                                            go_roundw
                                            case rel => exact ⟨p + 1, by omega, by go_num, hbc, HVc.out, by show _ = _; rw [hrp'.out, ckOK, n1.out, n2.out, n3.out, n4.out, n5.out, n6.out, n7.out]; rfl⟩
                                            case measure => simp [intOf]; omega
                                          | false =>
                                            have hp0 : 0 < y.path.size := by
                                              by_cases hz : y.path.size = 0
                                              · rw [(size_zero _).1 hz] at hn7; cases hn7
                                              · omega
                                            have n7 := Lib.hid hn7
                                            clear hn7
                                            have hg0 := getD_lst y.path 0 hp0
                                            by_cases c8 : ((y.path[0]'hp0).toNat : Int) = 47
                                            · have c8' : (((y.path[0]'hp0).toNat : Int) == 47) = true := by simpa using c8
                                              have n8 : Hid (decide (((lst y.path).getD 0 0).toNat ≠ 47) = false) := by show _ = _; rw [hg0, decide_eq_false_iff_not]; omega
                                              clear hg0 c8
                                              go_wp2_with fail
                                              go_ret
                                              exact ⟨ret_bool (by rw [hrp'.out, ckOK, n7.out, n8.out]; simp), hbc⟩
                                            · have c8' : (((y.path[0]'hp0).toNat : Int) == 47) = false := by simpa using c8
                                              have n8 : Hid (decide (((lst y.path).getD 0 0).toNat ≠ 47) = true) := by show _ = _; rw [hg0, decide_eq_true_iff]; omega
                                              clear hg0 c8
                                              go_wp2_with fail
                                              go_roundw
                                              case rel => exact ⟨p + 1, by omega, by go_num, hbc, HVc.out, by show _ = _; rw [hrp'.out, ckOK, n1.out, n2.out, n3.out, n4.out, n5.out, n6.out, n7.out, n8.out]; rfl⟩
                                              case measure => simp [intOf]; omega
                          · have hre : Hid (validB listed sufs ss = (stepsOK listed x.tm (ss.drop (q + 1)) && decide (ss.length ≤ 64))) := by show _ = _; rw [hrp.out, all_dropped _ x.cookies p hpl]; rfl
                            clear hrp
                            go_wp2_with fail
                            go_roundw
                            case rel => exact ⟨q + 1, x.tm, by omega, by go_num, rfl, hbp, hre.out⟩
                            case measure => simp [intOf]; omega
        · have hre : Hid (validB listed sufs ss = decide (ss.length ≤ 64)) := by show _ = _; rw [hrq.out, List.drop_eq_nil_of_le (by omega)]; rfl
          clear hrq
          go_wp2_with fail
          go_ret
          exact ⟨ret_bool (by rw [hre.out]; exact decide_congr (by omega)), hbq⟩
end Go.Proofs.YtcofblepdfjhjaaGreatDoor

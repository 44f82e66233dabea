/- Walks: Run. -/
import Derived.Test.YtcofblepdfjhjaaGreatDoorRunMem
import Derived.Test.YtcofblepdfjhjaaGreatDoorLawsA
namespace Go.Proofs.YtcofblepdfjhjaaGreatDoor
open Go.RowKit
/-- The state of the run ahead of step k. -/
structure RunState (w0 : World) (psl : Option (List ByteArray)) (ss : List PStep) (jb : Nat) (pv : Value) (wr : World) (v10 : Value) (k : Nat) : Prop where
  ex : ∃ (ov : Value) (us : List Value) (J : ByteArray → ByteArray → Option Ent) (n : Nat) (F : Nat → Prop) (o : List (List Ent)), ov = v10 ∧ wr.ownsRow w0.heap.size 37 1 ov (pairsOf o).length us ∧ JarAt wr jb pv F J n ∧ JOK J n ∧ n ≤ k * 64 ∧
    (∀ b, F b → w0.heap.size ≤ b ∧ b < wr.heap.size) ∧ (∀ b, ov.ownBlock = some b → ¬ F b) ∧ RowsOK wr (fun b => w0.heap.size ≤ b ∧ ¬ F b ∧ ov.ownBlock ≠ some b) us (pairsOf o) ∧ Below w0.heap.size w0 wr ∧ o.length ≤ k ∧
    (∀ o', RunRel psl J n (ss.drop k) o' → RunRel psl noJar 0 ss (o ++ o'))
theorem Sent.len {S : ByteArray → Option Ent} {now : Int} {https : Bool} {host path : ByteArray} {L : List Ent} {n : Nat} (h : Sent S now https host path L) (hS : SOK S n) : L.length ≤ n := by
  have hnd : (L.map (·.seq)).Nodup := by
    rw [List.nodup_iff_pairwise_ne, List.pairwise_map]
    refine List.Pairwise.imp_of_mem ?_ h.sorted
    intro x y hx hy hxy e
    obtain ⟨i, hi, _⟩ := (h.mem x).1 hx
    obtain ⟨j, hj, _⟩ := (h.mem y).1 hy
    have := (hS i x hi).2.2.2 j y hj e.symm
    subst this
    rw [hi] at hj
    cases hj
    exact entLt_irrefl x hxy
  have := nodup_lt n (L.map (·.seq)) hnd (fun q hq => by
    obtain ⟨e, he, rfl⟩ := List.mem_map.1 hq
    obtain ⟨id, h2, _⟩ := (h.mem e).1 he
    exact (hS id e h2).2.2.1)
  simpa using this
theorem AskL.len {psl : Option (List ByteArray)} {J : ByteArray → ByteArray → Option Ent} {s : PStep} {L : List Ent} {n : Nat} (h : AskL psl J s L) (hJ : JOK J n) : L.length ≤ n := by
  unfold AskL at h
  split at h
  · rw [h]; exact Nat.zero_le _
  · exact h.len (hJ _)
theorem flat_take {L : List Ent} {m : Nat} {e : Ent} (h : L[m]? = some e) : ((L.take (m + 1)).map pairOf).flatMap pairC = ((L.take m).map pairOf).flatMap pairC ++ [.string e.name, .string e.value] := by
  have hm : m < L.length := (List.getElem?_eq_some_iff.1 h).1
  have he : L[m] = e := (List.getElem?_eq_some_iff.1 h).2
  rw [List.take_succ_eq_append_getElem hm, List.map_append, List.flatMap_append, he]
  rfl
theorem pairsOf_len (o : List (List Ent)) : (pairsOf o).length = o.length := by simp [pairsOf]
set_option maxRecDepth 100000 in
set_option maxHeartbeats 16000000 in
theorem Run_any (listed : Bool) (v vs ev : Value) (sufs : List ByteArray) (ss : List PStep) (B : Nat) (te : TypeId) (pe : Value) (w : World) (hS : StrsAt w B v sufs) (hT : StepsAt w B vs ss) (hB : B ≤ w.heap.size) (hB0 : 0 < B) (hev : ev = .iface te pe) (hg : w.cell? ⟨0, 0, none⟩ = some ev)
    (hsl : sufs.length ≤ 2147483647 ∧ ∀ x ∈ sufs, x.size ≤ 2147483647) (hok : ∀ s ∈ ss, StepOK s) (hlen : ss.length ≤ 64) (hck : ∀ s ∈ ss, s.cookies.length ≤ 64) :
    Calls Tryz.prog 25 #[.bool listed, v, vs] w (RunPost (pslOf listed sufs) ss w) := by
  have hsh := hS.ex
  obtain ⟨ao, sb, soff, scap, rfl, _, _⟩ := hsh
  obtain ⟨cv, hT1, hT2⟩ := hT.ex
  obtain ⟨ta, tb, toff, tcap, rfl, ht1, ht2⟩ := hT1.ex
  have hP0 : PslAt w B (if listed = true then .iface 66 (.slice ao sufs.length scap) else .nilIface) (pslOf listed sufs) := by
    unfold pslOf
    cases listed
    · rfl
    · exact ⟨_, rfl, hS, hsl.1, hsl.2⟩
  obtain ⟨pv, hpv⟩ : ∃ pv, (if listed = true then Value.iface 66 (.slice ao sufs.length scap) else .nilIface) = pv := ⟨_, rfl⟩
  rw [hpv] at hP0
  have hpn : pv = .nilIface ∨ ∃ u, pv = .iface 66 u := by
    rw [← hpv]
    cases listed
    · exact Or.inl rfl
    · exact Or.inr ⟨_, rfl⟩
  have HPV := Lib.hid hpv
  obtain ⟨psl, hpsl⟩ : ∃ psl, pslOf listed sufs = psl := ⟨_, rfl⟩
  rw [hpsl] at hP0 ⊢
  clear hpv hpsl hS hT hT1
  have HT1 := Lib.hid ht1
  have HT2 := Lib.hid ht2
  have HCV := Lib.hid hT2
  have HOK := Lib.hid hok
  have HCK := Lib.hid hck
  clear ht1 ht2 hT2 hok hck
  go_enter Tryz.func25, Tryz.ntmps25
  go_upto_if 23 with (fail)
  go_cut [] (fun wx => wx.cell? ⟨w.heap.size, 0, none⟩ = some pv ∧ Below w.heap.size w wx ∧ w.heap.size < wx.heap.size)
  case first =>
    have hpv := HPV.out
    cases listed
    · have Hpv : Hid (Value.nilIface = pv) := hpv
      clear hpv
      go_wp2
      go_meet
      exact ⟨by rw [← Hpv.out]; simp [go_sem], (Below.refl _ _).alloc (Nat.le_refl _) _, by simp⟩
    · have Hpv : Hid (Value.iface 66 (.slice ao sufs.length scap) = pv) := hpv
      clear hpv
      go_wp2
      go_meet
      exact ⟨by rw [← Hpv.out]; simp [go_sem], (Below.refl _ _).alloc (Nat.le_refl _) _, by simp⟩
  case rest =>
    obtain ⟨hc0, hb0, hs0⟩ := hcut
    have HNEW := New_any w.heap.size pv wc hc0 hs0 hpn
    go_wp2_with fail
    refine HNEW.mono ?_
    rintro r w1 ⟨jb, F0, rfl, hJ, hF, hb1⟩
    have hb01 := hb0.trans (hb1.mono (by omega))
    have hs1 := hb1.size
    clear HNEW hc0
    go_wp2_with fail
    go_loopw [10, 36] (fun v10 v36 wr => ∃ k : Nat, k ≤ ss.length ∧ v36 = .int .i64 k ∧ RunState w psl ss jb pv wr v10 k) (fun _ i _ => ss.length - (intOf i).toNat)
    case atStart => exact ⟨0, Nat.zero_le _, rfl, ⟨⟨_, [], noJar, 0, F0, [], rfl, World.ownsRow_nil _ _ _ _, hJ, JOK.new, Nat.zero_le _, fun b hb => ⟨by have := (hF b hb).1; omega, (hF b hb).2⟩, fun b h => (by cases h), ⟨rfl, fun j u ps h _ => by cases j <;> cases h⟩, hb01, Nat.le_refl _, fun o' h => h⟩⟩⟩
    case round =>
      obtain ⟨k, hk, rfl, hst⟩ := hrel
      obtain ⟨ov, us, J, n, F, o, rfl, hown, hJr, hJO, hn, hFb, hFo, hrows, hbr, hol, hrun⟩ := hst.ex
      have HRUN := Lib.hid hrun
      have hwr := hbr.size
      have hjlt : jb < wr.heap.size := by obtain ⟨_, _, _, _, _, _, _, h6, _⟩ := hJr.ex; exact h6
      clear hst hrun hJ hF hb1 hb01
      by_cases hlt : k < ss.length
      · have hpos : 0 < ss.length := by omega
        obtain ⟨hta, htB⟩ := HT1.out hpos
        subst hta
        have hsk : ss[k]? = some ss[k] := List.getElem?_eq_getElem hlt
        have hrow := HT2.out k hlt
        rw [hsk] at hrow
        have hrow' : RowAt wr tb (toff + k * 6) (stCells ss[k] (cv k)) := hrow.below hbr (by omega)
        have hcks := (HCV.out k ss[k] hsk).below hbr hB
        have hsok := HOK.out ss[k] (List.getElem_mem hlt)
        have hsck := HCK.out ss[k] (List.getElem_mem hlt)
        have hdrop : ss.drop k = ss[k] :: ss.drop (k + 1) := List.drop_eq_getElem_cons hlt
        have HRUN2 : Hid (∀ o', RunRel psl J n (ss[k] :: ss.drop (k + 1)) o' → RunRel psl noJar 0 ss (o ++ o')) := by show ∀ o', _; rw [← hdrop]; exact HRUN.out
        clear hrow hdrop HRUN hsk
        generalize ss[k] = s at *
        have hP1 := hP0.below hbr hB
        have hg1 := (hbr.cell (p := ⟨0, 0, none⟩) (by simp; omega)).trans hg
        obtain ⟨ca, cbk, coff, ccap, hcv, hca, hcc⟩ := hcks.ex
        rw [hcv] at hrow'
        have HCA := Lib.hid hca
        have HCC := Lib.hid hcc
        clear hcv hca hcc hcks
        have hUX := fun W => Unix_any s.tm W
        unfold tv at hUX
        obtain ⟨q0, q1, q2, q3, q4, q5⟩ := row6 hrow'
        clear hg HPV hpn
        have htmp := hrow'
        clear hrow' htmp
        go_wp2_with fail
        refine (hUX _).mono ?_
        rintro r w2 ⟨rfl, hb2⟩
        have hal : Below wr.heap.size wr ((wr.alloc (.cells (stCells s (.slice ca s.cookies.length ccap)).toArray 32)).alloc (.cells [Value.string s.scheme, .string s.host, .string s.path].toArray 73)) := ((Below.refl _ _).alloc (Nat.le_refl _) _).alloc (by simp) _
        have hurl : RowAt ((wr.alloc (.cells (stCells s (.slice ca s.cookies.length ccap)).toArray 32)).alloc (.cells [Value.string s.scheme, .string s.host, .string s.path].toArray 73)) (wr.heap.size + 1) 0 [Value.string s.scheme, .string s.host, .string s.path] := by
          have := RowAt.new (wr.alloc (.cells (stCells s (.slice ca s.cookies.length ccap)).toArray 32)) [Value.string s.scheme, .string s.host, .string s.path] 73
          simpa using this
        have hstp : RowAt ((wr.alloc (.cells (stCells s (.slice ca s.cookies.length ccap)).toArray 32)).alloc (.cells [Value.string s.scheme, .string s.host, .string s.path].toArray 73)) wr.heap.size 0 (stCells s (.slice ca s.cookies.length ccap)) :=
          (RowAt.new wr (stCells s (.slice ca s.cookies.length ccap)) 32).below ((Below.refl (wr.heap.size + 1) _).alloc (by simp) _) (by omega)
        have hb2' : Below (wr.heap.size + 2) ((wr.alloc (.cells (stCells s (.slice ca s.cookies.length ccap)).toArray 32)).alloc (.cells [Value.string s.scheme, .string s.host, .string s.path].toArray 73)) w2 := hb2.mono (by simp)
        have hs2 : wr.heap.size + 2 ≤ w2.heap.size := by have := hb2'.size; simp at this; omega
        have hbx := hal.trans (hb2'.mono (by omega))
        have hurl2 := hurl.below hb2' (by omega)
        have hstp2 := hstp.below hb2' (by omega)
        clear hb2 hal hurl hstp hb2' hUX q0 q1 q2 q3 q4 q5
        go_upto_region 11 with (fail)
        generalize hw3 : w2.alloc (.cells #[.int .i64 s.tm, .int .i64 0] 75) = w3
        have hb23 : Below w2.heap.size w2 w3 := by rw [← hw3]; exact (Below.refl _ _).alloc (Nat.le_refl _) _
        have hs3 : w2.heap.size < w3.heap.size := by rw [← hw3]; simp
        have t0 : w3.cell? ⟨w2.heap.size, 0, none⟩ = some (.int .i64 s.tm) := by rw [← hw3]; simp [go_sem]
        have t1 : w3.cell? ⟨w2.heap.size, 1, none⟩ = some (.int .i64 0) := by rw [← hw3]; simp [go_sem]
        have hb3 := hbx.trans (hb23.mono (by omega))
        have hurl3 := hurl2.below hb23 (by omega)
        have hstp3 := hstp2.below hb23 (by omega)
        clear hw3 hurl2 hstp2 hb23 hbx
        generalize w2.heap.size = tb2 at *
        have HCC3 : Hid (∀ j, j < s.cookies.length → RowAt w3 cbk (coff + j * 7) ((s.cookies[j]?.map ckCells).getD [])) := fun j hj => (HCC.out j hj).below hb3 (by have := (HCA.out (by omega)).2; omega)
        clear HCC
        have hJ3 := hJr.chg (Chg.of_new hb3 (fun _ => False)) (fun _ _ e => e)
        have hP3 := hP1.below hb3 (by omega)
        have hg3 := (hb3.cell (p := ⟨0, 0, none⟩) (by simp; omega)).trans hg1
        have hown3 := own_chg hown (Chg.of_new hb3 (fun _ => False)) (fun _ _ e => e)
        have hrows3 := hrows.chg (Chg.of_new hb3 (fun _ => False)) (fun _ _ _ e => e) (fun _ _ h => h)
        have hobl := fun b hb => (hown.lt b hb).2
        have hobg := fun b hb => (hown.lt b hb).1
        have hbr3 := hbr.trans (hb3.mono (by omega))
        have p0 : w3.cell? ⟨wr.heap.size, 0, none⟩ = some (.bool s.set) := hstp3.at 0 _ rfl
        have p5 : w3.cell? ⟨wr.heap.size, 5, none⟩ = some (.slice ca s.cookies.length ccap) := by simpa using hstp3.at 5 _ rfl
        clear hJr hP1 hg1 hown hrows hstp3 hbr
        generalize hst : s.set = st at *
        have HST := Lib.hid hst
        clear hst
        have hFb3 : ∀ b, F b → w.heap.size ≤ b ∧ b < w3.heap.size := fun b hb => ⟨(hFb b hb).1, by have := (hFb b hb).2; omega⟩
        have hobl3 : ∀ b, ov.ownBlock = some b → b < w3.heap.size := fun b hb => by have := hobl b hb; omega
        have hub : wr.heap.size + 1 < w3.heap.size := by omega
        have htb : tb2 < w3.heap.size := hs3
        clear hb3 hFb hobl hjlt hs2 hs3
        generalize hA : wr.heap.size = A at *
        clear hA
        cases st
        · as_aux_lemma =>
          have HA := CookiesAt_any psl pv B jb (A + 1) F J n s w3 hJ3 hJO hP3 (by omega) (fun b hb => (hFb3 b hb).2) hurl3 hub hsok (by omega)
          unfold tv at HA
          have HA' := Lib.hid HA
          clear HA hsck HCA HCC3 p5 hg3
          go_wp2_with fail
          refine HA'.out.mono ?_
          rintro r w4 ⟨sv, L, F', rfl, hL, hsp, hJ4, hC4, hF4⟩
          obtain ⟨sa, soff2, scap2, rfl, hsp2⟩ := hsp
          have HSP := Lib.hid hsp2
          have hLn := hL.len hJO
          have HL := Lib.hid hL
          have hs4 := hC4.size
          have hown4 := own_chg hown3 hC4 (fun b hb => hFo b hb)
          have hrows4 := hrows3.chg hC4 (fun b _ h => h.2.1) (fun _ _ h => h)
          have hbr4 := hbr3.trans (hC4.below (by omega) (fun b hb => (hFb3 b hb).1))
          clear hsp2 hL HA' hC4 hown3 hrows3 hbr3 t0 t1 p0 hJ3 hP3 hurl3
          obtain ⟨i0, hi, hz0, hz1, hz2⟩ := info_parts Tryz.infoPair
          obtain ⟨i1, hi1, hy0, hy1, hy2⟩ := info_parts Tryz.infoSlPair
          go_wp2_with fail
          go_loopw [15, 62] (fun v15 v62 wx => ∃ (m : Nat) (gv : Value), gv = v15 ∧ m ≤ L.length ∧ v62 = .int .i64 m ∧ wx.ownsRow w4.heap.size 54 2 gv m (((L.take m).map pairOf).flatMap pairC) ∧ Below w4.heap.size w4 wx) (fun _ i _ => L.length - (intOf i).toNat)
          case atStart => exact ⟨0, _, rfl, Nat.zero_le _, rfl, World.ownsRow_nil _ _ _ _, Below.refl _ _⟩
          case round =>
            obtain ⟨m, gv, rfl, hm, rfl, hgo, hbx⟩ := hrel
            have hsx := hbx.size
            by_cases hlt2 : m < L.length
            · as_aux_lemma =>
              obtain ⟨pb, rfl, hpb1, hpb2, hpc⟩ := HSP.out (by omega)
              have hel : L[m]? = some L[m] := List.getElem?_eq_getElem hlt2
              obtain ⟨cb, c1, c2, c3, c4, c5⟩ := hpc m _ hel
              have HEL := Lib.hid (flat_take hel)
              clear hel hpc
              generalize L[m] = e at *
              have d1 := (hbx.cell (p := ⟨pb, soff2 + m, none⟩) hpb2).trans c1
              have d4 := (hbx.cell (p := ⟨cb, 0, none⟩) c3).trans c4
              have d5 := (hbx.cell (p := ⟨cb, 1, none⟩) c3).trans c5
              have hnb : gv.ownBlock ≠ some cb := fun h => by have := (hgo.lt cb h).1; omega
              have hgl := fun j hj => (hgo.lt j hj).1
              clear c1 c4 c5
              go_wp2_with fail
              go_region_held3 (fun w' => w'.cell? ⟨cb, 0, none⟩ = some (.string e.name) ∧ w'.cell? ⟨cb, 1, none⟩ = some (.string e.value))
                (first
                  | go_keep
                  | (go_split_ands
                     refine ⟨?_, ?_⟩
                     · (rw [hgrow.cell_far _ (by simp; omega) (Ne.symm hnb)]; assumption)
                     · (rw [hgrow.cell_far _ (by simp; omega) (Ne.symm hnb)]; assumption)))
                ((refine step_append_lies _ (by rfl) _ _ _ (by rfl) w4.heap.size 54 i0 _ 2 32 Tryz.underlying37 hi hz0 hz1 hz2 rfl (by omega) gv m _ (by rfl) ((hgo.alloc _).drew)
                    ⟨wr.heap.size, 0, none⟩ 1 1 [.string e.name, .string e.value] (by rfl) (by rfl) (World.news_of_block (cs := #[.string e.name, .string e.value]) (t := 54) (fr := (0, 0)) (heap_alloc_new wr _)) (by simp [Value.oneCell'])
                    (by omega) (by unfold maxLen; omega) (by omega) (by simp; omega) (wr.heap.size + 1) (by simp) ?_; intro gg cap w1 hown1 hgrow hat hltg))
              have hb9 : Below w4.heap.size w4 w1 := ((hbx.alloc hsx _).drew).grown hgrow (by simp; omega) hgl
              have hO : w1.ownsRow w4.heap.size 54 2 (.slice (some ⟨gg, 0, none⟩) (m + 1) cap) (m + 1) (((L.take (m + 1)).map pairOf).flatMap pairC) := by rw [HEL.out]; exact hown1
              clear hgrow hown1 hat hbx hgo
              go_wp2
              go_roundw
              case rel => exact ⟨m + 1, _, rfl, by omega, by go_num, hO, hb9⟩
              case measure => simp [intOf]; omega
            · as_aux_lemma =>
              have hml : m = L.length := by omega
              subst hml
              rw [List.take_length] at hgo
              obtain ⟨ga, gcap, rfl⟩ := own_shape hgo
              have hown5 := own_chg hown4 (Chg.of_new hbx (fun _ => False)) (fun _ _ e => e)
              have hobg5 := fun b hb => (hgo.lt b hb)
              have hpl : (pairsOf o).length ≤ 64 := by rw [pairsOf_len]; omega
              clear HSP
              go_wp2_with (first
                | (at_builtin; refine wpList_append_lies _ rfl _ _ 50 rfl w.heap.size 37 i1 (.slice none 0 0) 1 24 Tryz.underlying50 hi1 hy0 hy1 hy2 rfl (by decide) _ _ _ (by rfl) (hown5.alloc _) ⟨wr.heap.size, 0, none⟩ 1 1 [.slice ga L.length gcap] (by rfl) rfl ?e1 ?e2 (by decide) ?e3 ?e4 ?e5 (wr.heap.size + 1) ?e6 ?_))
              case e1 =>
                intro j u hu
                match j, hu with
                | 0, hu => cases hu; simp [go_sem, Addr.add]
                | j + 1, hu => simp at hu
              case e2 => intro u hu; simp at hu; subst hu; rfl
              case e3 => unfold maxLen; omega
              case e4 => omega
              case e5 => simp; omega
              case e6 => simp
              intro gg cap w6 hown6 hgrow hat hltg
              have hal5 := (Below.refl wr.heap.size wr).alloc (Nat.le_refl _) (.cells #[.slice ga L.length gcap] 37)
              have hC6 : Chg (fun x => ov.ownBlock = some x) wr w6 := (Chg.of_new hal5 _).trans (Chg.of_grown hgrow) (fun _ _ e => e)
              have hne6 : ∀ x, x < wr.heap.size → ov.ownBlock ≠ some x → (Value.slice (some ⟨gg, 0, none⟩) ((pairsOf o).length + 1) cap).ownBlock ≠ some x := by
                intro x hx hv e
                have e' : gg = x := Option.some.inj e
                rcases hat with hg | hg
                · rw [e'] at hg; exact hv hg
                · omega
              have hgo' : wr.ownsRow w4.heap.size 54 2 (.slice ga L.length gcap) (L.map pairOf).length ((L.map pairOf).flatMap pairC) := by rw [List.length_map]; exact hgo
              have hp := pairs_of_own (Q := fun x => w4.heap.size ≤ x ∧ x < wr.heap.size) hgo' hobg5
              have hp6 : PairsAt w6 (fun x => w.heap.size ≤ x ∧ ¬ F' x ∧ (Value.slice (some ⟨gg, 0, none⟩) ((pairsOf o).length + 1) cap).ownBlock ≠ some x) (.slice ga L.length gcap) (L.map pairOf) := by
                exact hp.chg hC6 (fun b _ h e => by have := hobl3 b e; omega) (fun b hb h => ⟨by omega, fun hf => by have := (hFb3 b (hF4 b hf)).2; omega, hne6 b hb (fun e => by have := hobl3 b e; omega)⟩)
              have hrows6 := (hrows4.chg (Chg.of_new hbx (fun _ => False)) (fun _ _ _ e => e) (fun _ _ h => h)).chg (Q' := fun x => w.heap.size ≤ x ∧ ¬ F' x ∧ (Value.slice (some ⟨gg, 0, none⟩) ((pairsOf o).length + 1) cap).ownBlock ≠ some x) hC6 (fun b _ h => h.2.2) (fun b hb h => ⟨h.1, fun hf => h.2.1 (hF4 b hf), hne6 b hb h.2.2⟩)
              have hpo : pairsOf (o ++ [L]) = pairsOf o ++ [L.map pairOf] := by simp [pairsOf]
              have hrows7 := hrows6.snoc hp6
              rw [← hpo] at hrows7
              have hown7 : w6.ownsRow w.heap.size 37 1 (.slice (some ⟨gg, 0, none⟩) ((pairsOf o).length + 1) cap) (pairsOf (o ++ [L])).length (us ++ [.slice ga L.length gcap]) := by
                rw [hpo, List.length_append]; exact hown6
              have hJ6 := (hJ4.chg (Chg.of_new hbx (fun _ => False)) (fun _ _ e => e)).chg hC6 (fun b hb e => hFo b e (hF4 b hb))
              have hs6 := hC6.size
              have hF6 : ∀ b, F' b → w.heap.size ≤ b ∧ b < w6.heap.size := fun b hb => ⟨(hFb3 b (hF4 b hb)).1, by have := (hFb3 b (hF4 b hb)).2; omega⟩
              have hFo6 : ∀ b, (Value.slice (some ⟨gg, 0, none⟩) ((pairsOf o).length + 1) cap).ownBlock = some b → ¬ F' b := by
                intro b e hf
                have e' : gg = b := Option.some.inj e
                subst e'
                rcases hat with hg | hg
                · exact hFo _ hg (hF4 _ hf)
                · have := (hFb3 _ (hF4 _ hf)).2; omega
              have hb6 : Below w.heap.size w w6 := (hbr4.trans (hbx.mono (by omega))).trans (hC6.below (by omega) hobg)
              have HR6 : Hid (∀ o', RunRel psl (askJ psl s J) n (ss.drop (k + 1)) o' → RunRel psl noJar 0 ss ((o ++ [L]) ++ o')) := fun o' h => by
                have := HRUN2.out (L :: o') (RunRel.ask HST.out HL.out h)
                rw [List.append_assoc]; exact this
              have hJO6 := askJ_ok (psl := psl) (s := s) hJO
              have hol6 : (o ++ [L]).length ≤ k + 1 := by rw [List.length_append]; simp; omega
              clear hrows4 hrows6 hp hp6 hgo' hown6 hgrow hal5 hC6 hne6 hgo hobg5 hown4 hown5 hat hbx hJ4 hbr4 hpo
              go_wp2
              go_roundw
              case rel => exact ⟨k + 1, by omega, by go_num, ⟨⟨_, _, _, n, F', o ++ [L], rfl, hown7, hJ6, hJO6, by omega, hF6, hFo6, hrows7, hb6, hol6, HR6.out⟩⟩⟩
              case measure => simp [intOf]; omega
        · as_aux_lemma =>
          obtain ⟨i0, hi, hz0, hz1, hz2⟩ := info_parts Tryz.infoPCk
          go_wp2_with fail
          go_loopw [18, 86] (fun v18 v86 wx => ∃ (m : Nat) (PS : List Nat) (gv : Value), gv = v18 ∧ m ≤ s.cookies.length ∧ v86 = .int .i64 m ∧ PS.length = m ∧ wx.ownsRow w3.heap.size 79 1 gv m (PS.map ptrV) ∧ Below w3.heap.size w3 wx ∧ Hid (CksOK wx w3.heap.size gv PS s.cookies)) (fun _ i _ => s.cookies.length - (intOf i).toNat)
          case atStart => exact ⟨0, [], _, rfl, Nat.zero_le _, rfl, rfl, World.ownsRow_nil _ _ _ _, Below.refl _ _, fun j b c h => by cases j <;> cases h⟩
          case round =>
            obtain ⟨m, PS, gv, rfl, hm, rfl, hPS, hgo, hbx, hcks⟩ := hrel
            have hsx := hbx.size
            by_cases hlt2 : m < s.cookies.length
            · as_aux_lemma =>
              obtain ⟨rfl, hcB⟩ := HCA.out (by omega)
              have hel : s.cookies[m]? = some s.cookies[m] := List.getElem?_eq_getElem hlt2
              have hrw := HCC3.out m hlt2
              rw [hel] at hrw
              have hrw' : RowAt wr cbk (coff + m * 7) (ckCells s.cookies[m]) := hrw.below hbx (by omega)
              have HEL := Lib.hid hel
              have HPS := Lib.hid hPS
              clear hel hrw hPS
              generalize s.cookies[m] = c at *
              obtain ⟨d0, d1, d2, d3, d4, d5, d6⟩ := row7 hrw'
              have HCK2 := fun W => cookie_any c W
              unfold ckCells at HCK2
              have hgl := fun j hj => (hgo.lt j hj)
              go_wp2_with fail
              refine (HCK2 _).mono ?_
              rintro r w7 ⟨cb, rfl, hcb1, hcb2, hcb3, hb7⟩
              have hb7' : Below wr.heap.size wr w7 := ((Below.refl wr.heap.size wr).alloc (Nat.le_refl _) _).trans (hb7.mono (by simp))
              have hs7 := hb7'.size
              have hgo7 := own_chg hgo (Chg.of_new hb7' (fun _ => False)) (fun _ _ e => e)
              simp only [World.size_alloc] at hcb1
              clear HCK2 hb7 d0 d1 d2 d3 d4 d5 d6 hrw'
              go_wp2_with (first
                | (at_builtin; refine wpList_append_lies _ rfl _ _ 77 rfl w3.heap.size 79 i0 (.pointer none) 1 8 Tryz.underlying77 hi hz0 hz1 hz2 rfl (by decide) _ _ _ (by rfl) (hgo7.alloc _) ⟨w7.heap.size, 0, none⟩ 1 1 [ptrV cb] (by rfl) rfl ?e1 ?e2 (by decide) ?e3 ?e4 ?e5 (w7.heap.size + 1) ?e6 ?_))
              case e1 =>
                intro j u hu
                match j, hu with
                | 0, hu => cases hu; simp [go_sem, Addr.add, ptrV]
                | j + 1, hu => simp at hu
              case e2 => intro u hu; simp at hu; subst hu; rfl
              case e3 => unfold maxLen; omega
              case e4 => omega
              case e5 => simp; omega
              case e6 => simp
              intro gg cap w8 hown8 hgrow hat hltg
              have hal7 := (Below.refl w7.heap.size w7).alloc (Nat.le_refl _) (.cells #[ptrV cb] 79)
              have hC8 : Chg (fun x => gv.ownBlock = some x) w7 w8 := (Chg.of_new hal7 _).trans (Chg.of_grown hgrow) (fun _ _ e => e)
              have hb8 : Below w3.heap.size w3 w8 := (hbx.trans (hb7'.mono hsx)).trans (hC8.below (by omega) (fun b e => (hgl b e).1))
              have hck7 : CksOK w7 w3.heap.size gv PS s.cookies := hcks.out.chg (Chg.of_new hb7' (fun _ => False)) (fun _ _ _ e => e)
              have hck8 := Lib.hid (CksOK.step (g := gg) (cap := cap) (m := m + 1) hck7 HPS.out HEL.out hC8 (by omega) hcb3 hcb2 (by rcases hat with h | h; exact Or.inl h; right; omega) (fun e => by have := (hgl cb e).2; omega))
              have hO : w8.ownsRow w3.heap.size 79 1 (.slice (some ⟨gg, 0, none⟩) (m + 1) cap) (m + 1) ((PS ++ [cb]).map ptrV) := by rw [List.map_append]; exact hown8
              clear hgrow hown8 hat hbx hgo hgo7 hcks hck7 hC8 hal7 hb7' hcb2
              go_wp2
              go_roundw
              case rel => exact ⟨m + 1, PS ++ [cb], _, rfl, by omega, by go_num, by rw [List.length_append, HPS.out]; rfl, hO, hb8, hck8⟩
              case measure => simp [intOf]; omega
            · as_aux_lemma =>
              have hml : m = s.cookies.length := by omega
              subst hml
              have hJ5 := hJ3.chg (Chg.of_new hbx (fun _ => False)) (fun _ _ e => e)
              have hptr : PtrsAt wr (fun b => ¬ F b) gv s.cookies := ptrs_of_own hgo hPS hcks.out (fun b hb hf => by have := (hFb3 b hf).2; omega)
              have HA := SetAt_any psl pv ev gv B jb (A + 1) F J n s te pe wr hJ5 (hP3.below hbx (by omega)) (by omega) hB0 (fun b hb => by have := (hFb3 b hb).1; omega) hev ((hbx.cell (p := ⟨0, 0, none⟩) (by simp; omega)).trans hg3) (hurl3.below hbx hub) (by omega) hptr hsok (by omega)
              unfold tv at HA
              have HA' := Lib.hid HA
              have u0 := (hbx.cell (p := ⟨tb2, 0, none⟩) (by simp; omega)).trans t0
              have u1 := (hbx.cell (p := ⟨tb2, 1, none⟩) (by simp; omega)).trans t1
              have hown5 := own_chg hown3 (Chg.of_new hbx (fun _ => False)) (fun _ _ e => e)
              have hrows5 := hrows3.chg (Chg.of_new hbx (fun _ => False)) (fun _ _ _ e => e) (fun _ _ h => h)
              have hbr5 := hbr3.trans (hbx.mono (by omega))
              obtain ⟨HJO', hn1, hn2⟩ := setJ_ok (psl := psl) hJO hsok
              have HR6 : Hid (∀ o', RunRel psl (setJ psl s J n) (setN psl s J n) (ss.drop (k + 1)) o' → RunRel psl noJar 0 ss (o ++ o')) := fun o' h => HRUN2.out o' (RunRel.set HST.out h)
              clear HA hJ5 hptr hgo hcks hPS hJ3 hP3 hg3 hurl3 hbx t0 t1 hown3 hrows3 hbr3 p0 p5 HCA HCC3 hsok HRUN2
              have hnn : setN psl s J n ≤ (k + 1) * 64 := by omega
              generalize setJ psl s J n = J' at *
              generalize setN psl s J n = n' at *
              go_wp2_with fail
              refine HA'.out.mono ?_
              rintro r w9 ⟨rfl, F', hJ9, hC9, hF9⟩
              have hs9 := hC9.size
              have hown9 := own_chg hown5 hC9 (fun b hb => hFo b hb)
              have hrows9 := hrows5.chg (Q' := fun x => w.heap.size ≤ x ∧ ¬ (F' x ∧ x < w9.heap.size) ∧ ov.ownBlock ≠ some x) hC9 (fun b _ h => h.2.1) (fun b hb h => ⟨h.1, fun hf => by rcases hF9 b hf.1 with h' | h'; exact h.2.1 h'; omega, h.2.2⟩)
              have hb9 := hbr5.trans (hC9.below (by omega) (fun b hb => (hFb3 b hb).1))
              have hJ10 := hJ9.bound
              have hF10 : ∀ b, (F' b ∧ b < w9.heap.size) → w.heap.size ≤ b ∧ b < w9.heap.size := fun b hb => ⟨by rcases hF9 b hb.1 with h' | h'; exact (hFb3 b h').1; omega, hb.2⟩
              have hFo9 : ∀ b, ov.ownBlock = some b → ¬ (F' b ∧ b < w9.heap.size) := fun b e hf => by
                rcases hF9 b hf.1 with h' | h'
                · exact hFo b e h'
                · have := hobl3 b e; omega
              clear HA' hown5 hrows5 hbr5 hC9 hJ9
              go_wp2
              go_roundw
              case rel => exact ⟨k + 1, by omega, by go_num, ⟨⟨_, us, J', n', _, o, rfl, hown9, hJ10, HJO', hnn, hF10, hFo9, hrows9, hb9, by omega, HR6.out⟩⟩⟩
              case measure => simp [intOf]; omega
      · have hke : k = ss.length := by omega
        subst hke
        have hfin := HRUN.out [] (by rw [List.drop_length]; exact RunRel.nil J n)
        rw [List.append_nil] at hfin
        have hO := outs_of_own (Q := fun b => w.heap.size ≤ b) hown (hrows.chg (Chg.refl (fun _ => False) wr) (fun _ _ _ e => e) (fun b _ h => h.1)) (fun b hb => (hown.lt b hb).1)
        have HO := Lib.hid hO
        clear hO hrows hown hJr
        go_wp2
        go_returns
        exact ⟨_, o, rfl, hfin, HO.out, hbr⟩
end Go.Proofs.YtcofblepdfjhjaaGreatDoor

/- The law FnHostInAnyForm: its walk. -/
import Derived.Test.YtcofblepdfjhjaaDoorStepAll
import Derived.Test.YtcofblepdfjhjaaDoorLawsC
namespace Go.Proofs.YtcofblepdfjhjaaDoor
open Go.RowKit
/-- A step whose host stands in upper case, with a port. -/
def formH (port h : ByteArray) : ByteArray := str (upp (lst (str (hostB (lst h))))) ++ ⟨#[58]⟩ ++ port
def formS (port : ByteArray) (s : PStep) : PStep := { s with host := formH port s.host }
def formP (port : ByteArray) (p : PStep × Value) : PStep × Value := (formS port p.1, p.2)
theorem lst_app (a b : ByteArray) : lst (a ++ b) = lst a ++ lst b := by
  unfold lst
  simp
theorem formH_lst (port h : ByteArray) : lst (formH port h) = upp (hostB (lst h)) ++ 58 :: lst port := by
  unfold formH
  rw [lst_app, lst_app, lst_str, lst_str]
  rw [List.append_assoc]
  rfl
theorem formH_size (port h : ByteArray) : (formH port h).size ≤ h.size + 1 + port.size := by
  have h1 := splitB_len h
  rw [str_size] at h1
  rw [← lst_len, formH_lst, List.length_append, List.length_cons, lst_len]
  unfold upp hostB low
  rw [List.length_map, List.length_map]
  omega
theorem form_same (port : ByteArray) (s : PStep) : hostOf (formS port s) = hostOf s ∧ (formS port s).set = s.set ∧ (formS port s).tm = s.tm ∧ (formS port s).scheme = s.scheme ∧ (formS port s).path = s.path ∧ (formS port s).cookies = s.cookies := by
  refine ⟨?_, rfl, rfl, rfl, rfl, rfl⟩
  unfold hostOf
  rw [show (formS port s).host = formH port s.host from rfl, formH_lst, host_form]
theorem fits2_host {ss : List PStep} (h : fits2 ss = true) : ∀ s ∈ ss, s.host.size ≤ 2147483647 := fun s hs => by
  unfold fits2 at h
  rw [Bool.and_eq_true] at h
  have h3 := List.all_eq_true.1 h.2 s hs
  unfold fits3 at h3
  rw [Bool.and_eq_true] at h3
  exact (of_decide_eq_true h3.1).2.1
theorem own_form {w : World} {base : Nat} {u : Value} {L : List (PStep × Value)} (h : OwnS w base u L) : ∃ ao cap, u = .slice ao L.length cap := by
  obtain ⟨⟨hl, ⟨rfl, h0⟩ | ⟨g, cap, cur, rfl, _⟩⟩, _⟩ := h
  · exact ⟨none, 0, by rw [h0]⟩
  · exact ⟨_, cap, rfl⟩
theorem own_block {w : World} {base n cap : Nat} {ao : Option Addr} {L : List (PStep × Value)} (h : OwnS w base (.slice ao n cap) L) {k : Nat} (hk : k < n) : ∃ g, ao = some ⟨g, 0, none⟩ := by
  obtain ⟨⟨hl, ⟨hu, h0⟩ | ⟨g, cap', cur, hu, _⟩⟩, _⟩ := h
  · injection hu with _ e2 _
    omega
  · injection hu with e1 _ _
    exact ⟨g, e1⟩
/-- The first k in the other form. -/
def formK (port : ByteArray) (L : List (PStep × Value)) (k : Nat) : List (PStep × Value) := (L.take k).map (formP port) ++ L.drop k
theorem formK_len (port : ByteArray) (L : List (PStep × Value)) (k : Nat) : (formK port L k).length = L.length := by
  unfold formK
  rw [List.length_append, List.length_map, List.length_take, List.length_drop]
  omega
theorem formK_at {port : ByteArray} {L : List (PStep × Value)} {k : Nat} (h : k < L.length) : (formK port L k)[k]? = L[k]? := by
  unfold formK
  rw [List.getElem?_append_right (by rw [List.length_map, List.length_take]; omega), List.length_map, List.length_take, List.getElem?_drop]
  congr 1
  omega
theorem formK_set {port : ByteArray} {L : List (PStep × Value)} {k : Nat} {p : PStep × Value} (h : L[k]? = some p) : (formK port L k).set k (formP port p) = formK port L (k + 1) := by
  have hk := (List.getElem?_eq_some_iff.1 h).1
  unfold formK
  rw [take_snoc' h, List.map_append, List.set_append_right _ _ (by rw [List.length_map, List.length_take]; omega), List.length_map, List.length_take]
  rw [show k - min k L.length = 0 by omega]
  rw [show L.drop k = p :: L.drop (k + 1) from by rw [List.drop_eq_getElem_cons hk]; congr 1; exact Option.some.inj ((List.getElem?_eq_getElem hk).symm.trans h)]
  simp
theorem formK_end (port : ByteArray) (L : List (PStep × Value)) : formK port L L.length = L.map (formP port) := by
  unfold formK
  rw [List.take_length, List.drop_length, List.append_nil]
/-- One cell of a row of steps written: the host. -/
theorem RowS.host {w : World} {g cap : Nat} {L : List (PStep × Value)} (h : RowS w g cap L) {i : Nat} {p : PStep × Value} (hp : L[i]? = some p) (x : ByteArray) : RowS (w.setCell ⟨g, i * 6 + 3, none⟩ (.string x)) g cap (L.set i ({ p.1 with host := x }, p.2)) := by
  have hi := (List.getElem?_eq_some_iff.1 hp).1
  obtain ⟨cur, h1, h2, h3⟩ := h.ex
  have hle := h.le
  refine ⟨⟨_, heap_setCell_at h1 (.string x), by simp [h2], fun j c q hq hc => ?_⟩, by rw [List.length_set]; exact hle, h.mx⟩
  rw [Array.getElem?_setIfInBounds]
  rw [List.getElem?_set] at hq
  by_cases e : i = j
  · subst e
    rw [if_pos rfl, if_pos hi] at hq
    cases hq
    have h4 := h3 i c p hp hc
    by_cases e3 : c = 3
    · subst e3
      rw [if_pos rfl, if_pos (by omega)]
      rfl
    · rw [if_neg (by omega), h4]
      match c, e3, hc with
      | 0, _, _ => rfl
      | 1, _, _ => rfl
      | 2, _, _ => rfl
      | 4, _, _ => rfl
      | 5, _, _ => rfl
  · rw [if_neg e] at hq
    rw [if_neg (by omega)]
    exact h3 j c q hq hc
set_option maxRecDepth 100000 in
set_option maxHeartbeats 1600000 in
theorem eqFunc_any {w : World} {Q Q' : Nat → Prop} {u u' : Value} {pss : List (List (ByteArray × ByteArray))} (h : OutsAt w Q u pss) (h' : OutsAt w Q' u' pss) (hl : pss.length ≤ 2147483647) (hp : ∀ ps ∈ pss, ps.length ≤ 2147483647) :
    Calls Tryd.prog 29 #[u, u', .func (.func 26) #[] #[]] w fun r w' => r = .returned (.bool true) ∧ Below w.heap.size w w' := by
  have eg : ∀ args w, (callFunc 26 args).run Tryd.prog w = .ok (.enter 26 args) w := enters_of Tryd.func26 (by kernel_rfl) rfl
  obtain ⟨ao, b, off, cap, rfl, h1, h2⟩ := h
  obtain ⟨ao', b', off', cap', rfl, h1', h2'⟩ := h'
  have H1 := Lib.hid h1
  have H2 := Lib.hid h2
  have H1' := Lib.hid h1'
  have H2' := Lib.hid h2'
  have HP := Lib.hid hp
  clear h1 h2 h1' h2' hp
  go_enter Tryd.func29, Tryd.ntmps29
  go_wp2
  go_loopw [7, 8, 17] (fun _ _ i wr => ∃ k : Nat, k ≤ pss.length ∧ i = .int .i64 k ∧ Below w.heap.size w wr) (fun _ _ i _ => pss.length - (intOf i).toNat)
  case atStart => exact ⟨0, Nat.zero_le _, rfl, Below.refl _ _⟩
  case round =>
    obtain ⟨k, hk, rfl, hbel⟩ := hrel
    by_cases hlt : k < pss.length
    · have hps : pss[k]? = some pss[k] := List.getElem?_eq_getElem hlt
      have hm := HP.out pss[k] (List.getElem_mem hlt)
      generalize pss[k] = ps at hps hm
      obtain ⟨x, hx1, hx2⟩ := H2.out k ps hps
      obtain ⟨y, hy1, hy2⟩ := H2'.out k ps hps
      obtain ⟨rfl, hb1, _⟩ := H1.out (by omega)
      obtain ⟨rfl, hb2, _⟩ := H1'.out (by omega)
      have r1 := (hbel.cell (p := ⟨b, off + k, none⟩) hb1).trans hx1
      have r2 := (hbel.cell (p := ⟨b', off' + k, none⟩) hb2).trans hy1
      have hcall := eqPair_eq (Below.refl wr.heap.size wr) (Same.refl wr) (hx2.below hbel) (hy2.below hbel) hm rfl
      clear hps hx1 hx2 hy1 hy2
      go_wp2_with (first | (go_at_call 26; refine hcall.mono ?_; rintro r w2 ⟨rfl, hb3⟩) | (go_at_fn 26; refine hcall.mono ?_; rintro r w2 ⟨rfl, hb3⟩))
      go_roundw
      case rel => exact ⟨k + 1, by omega, by go_num, hbel.trans (hb3.mono hbel.size)⟩
      case measure => simp [intOf]; omega
    · go_wp2
      go_ret
      exact ⟨rfl, hbel⟩
set_option maxRecDepth 100000 in
set_option maxHeartbeats 6400000 in
theorem FnHostInAnyForm_any (listed : Bool) (v : Value) (sufs : List ByteArray) (vs : Value) (ss : List PStep) (port : ByteArray) (w : World) (hB : Base w) (hS : StrsAt w w.heap.size v sufs) (hl : sufs.length ≤ 9223372036854775807) (hsz : ∀ x ∈ sufs, x.size ≤ 9223372036854775807)
    (hT : StepsAt w w.heap.size vs ss) (hok : SliceOK vs) (hls : ss.length ≤ 9223372036854775807) (hw1 : ∀ x ∈ ss, StLen x) (hw2 : ∀ s ∈ ss, I64 s.tm ∧ ∀ c ∈ s.cookies, I64 c.maxAge ∧ I64 c.expires) (_hpo : port.size ≤ 9223372036854775807) :
    Calls Tryd.prog 11 #[.bool listed, v, vs, .string port] w fun r w' => r = .returned (.bool true) ∧ Below w.heap.size w w' := by
  have HW2 := Lib.hid hw2
  have HF1 := zzFits1_any v sufs w.heap.size w hS hl hsz
  have HF2 := zzFits2_any vs ss w.heap.size w hT (Nat.le_refl _) hls hw1
  clear hw1 hw2
  go_enter Tryd.func11, Tryd.ntmps11
  go_upto_region 1 with (fail)
  go_cut [26] (fun v26 wx => v26 = .bool (!(fits1 sufs && fits2 ss && decide (port.size ≤ 2147483647))) ∧ Below w.heap.size w wx)
  case first =>
    as_aux_lemma =>
    cases hf1 : fits1 sufs
    · have H1 := Lib.hid hf1
      clear hf1
      go_wp2_with fail
      refine HF1.mono ?_
      rintro r w1 ⟨rfl, rfl⟩
      rw [H1.out]
      go_wp2
      go_meet
      exact ⟨by rw [H1.out]; rfl, Below.refl _ _⟩
    · have H1 := Lib.hid hf1
      clear hf1
      cases hf2 : fits2 ss
      · have H2 := Lib.hid hf2
        clear hf2
        go_wp2_with fail
        refine HF1.mono ?_
        rintro r w1 ⟨rfl, rfl⟩
        rw [H1.out]
        go_wp2_with fail
        refine HF2.mono ?_
        rintro r w1 ⟨rfl, hb1⟩
        rw [H2.out]
        go_wp2
        go_meet
        exact ⟨by rw [H1.out, H2.out]; rfl, hb1⟩
      · have H2 := Lib.hid hf2
        clear hf2
        go_wp2_with fail
        refine HF1.mono ?_
        rintro r w1 ⟨rfl, rfl⟩
        rw [H1.out]
        go_wp2_with fail
        refine HF2.mono ?_
        rintro r w1 ⟨rfl, hb1⟩
        rw [H2.out]
        by_cases hlv : port.size ≤ 2147483647
        · have hlv' : ¬ (2147483647 : Int) < port.size := by omega
          go_wp2
          go_meet
          exact ⟨by rw [H1.out, H2.out, decide_eq_true hlv]; first | rfl | (simp; omega), hb1⟩
        · have hlv' : (2147483647 : Int) < port.size := by omega
          go_wp2
          go_meet
          exact ⟨by rw [H1.out, H2.out, decide_eq_false hlv]; first | rfl | (simp; omega), hb1⟩
  case rest =>
    obtain ⟨rfl, hb1⟩ := hcut
    obtain ⟨fb, hfb⟩ : ∃ fb, (fits1 sufs && fits2 ss && decide (port.size ≤ 2147483647)) = fb := ⟨_, rfl⟩
    rw [hfb]
    have HFB := Lib.hid hfb
    clear hfb HF1 HF2
    generalize wc = W1 at *
    cases fb
    · as_aux_lemma =>
      go_wp2
      go_returns
      exact ⟨rfl, hb1⟩
    · have hS1 : StrsAt W1 w.heap.size v sufs := hS.below hb1 (Nat.le_refl _)
      have hT1 := hT.below hb1 (Nat.le_refl _)
      have hf : (fits1 sufs = true ∧ fits2 ss = true) ∧ port.size ≤ 2147483647 := by have := HFB.out; simpa using this
      have hsl := fits1_use hf.1.1
      have hhost := fits2_host hf.1.2
      obtain ⟨hsn, hfit⟩ := fits2_use hf.1.2 HW2.out
      have hp32 := hf.2
      have HHOST := Lib.hid hhost
      have HFIT := Lib.hid hfit
      have hwB : w.heap.size ≤ W1.heap.size := hb1.size
      have hCL := cloneStep_any vs ss W1 (hT1.up hwB) hok hsn
      clear HFB hf HW2 hS hT hhost hfit
      go_upto_region 3 with (fail)
      go_wp2_with fail
      refine hCL.mono ?_
      rintro r w2 hcl
      obtain ⟨u, L, rfl, hL, hown, hck, hb2⟩ := clone_own hcl
      have hLl := clone_len hL hsn
      have HL := Lib.hid hL
      have HCK := Lib.hid hck
      clear hcl hCL hL hck
      obtain ⟨ao, cap, rfl⟩ := own_form hown
      have HOWN := Lib.hid hown
      have hLs : L.length = ss.length := by rw [← HL.out, List.length_map]
      clear hown
      go_upto_region 4 with (fail)
      go_wp2
      go_loopw [10, 11, 31] (fun _ _ i wr => ∃ k : Nat, k ≤ L.length ∧ i = .int .i64 k ∧ Below W1.heap.size W1 wr ∧ Hid (OwnS wr W1.heap.size (.slice ao L.length cap) (formK port L k))) (fun _ _ i _ => L.length - (intOf i).toNat)
      case atStart => exact ⟨0, Nat.zero_le _, rfl, hb2, by
        have h := HOWN.out
        have e : formK port L 0 = L := by unfold formK; simp
        show OwnS _ _ _ _
        rw [e]; exact h⟩
      case round =>
        obtain ⟨k, hk, rfl, hbr, hown⟩ := hrel
        clear HOWN
        by_cases hlt : k < L.length
        · have hkl := formK_len port L k
          obtain ⟨g, rfl⟩ := own_block hown.out hlt
          obtain ⟨_, hrow0, hg, _⟩ := hown.out.row
          have hrow := Lib.hid hrow0
          have hp : L[k]? = some L[k] := List.getElem?_eq_getElem hlt
          have hm : L[k] ∈ L := List.getElem_mem _
          generalize L[k] = p at hp hm
          have hpK : (formK port L k)[k]? = some p := by rw [formK_at hlt]; exact hp
          have hat := hrow.out.at hpK
          have hset := formK_set (port := port) hp
          obtain ⟨ua, ub, uo, uc, hu, _⟩ := (HCK.out p hm).ex
          have hhs := HHOST.out p.1 (by rw [← HL.out]; exact List.mem_map_of_mem hm)
          obtain ⟨s, u⟩ := p
          simp only [] at hu hhs
          subst hu
          generalize s.cookies.length = un at *
          obtain ⟨W3, hW3⟩ : ∃ W3, wr.alloc (.cells (stCells s (.slice ua un uc)).toArray 32) = W3 := ⟨_, rfl⟩
          have hb3 : Below wr.heap.size wr W3 := by rw [← hW3]; exact (Below.refl _ _).alloc (Nat.le_refl _) _
          have hv3 : RowAt W3 wr.heap.size 0 (stCells s (.slice ua un uc)) := by rw [← hW3]; exact RowAt.new wr (stCells s (.slice ua un uc)) 32
          have hsz3 : W3.heap.size = wr.heap.size + 1 := by rw [← hW3]; simp
          have hbr3 := hbr.trans (hb3.mono hbr.size)
          have hrow3 := Lib.hid (hrow.out.keep hb3)
          have HPK := Lib.hid hpK
          have HSET := Lib.hid hset
          have hz1 : (str (hostB (lst s.host))).size ≤ 2147483647 := by
            have := splitB_len s.host
            rw [str_size] at this ⊢
            rw [hostB, low_len]
            omega
          have hz2 : (str (upp (lst (str (hostB (lst s.host)))))).size ≤ 2147483647 := by
            rw [str_size, upp, List.length_map, lst_len]; exact hz1
          have HX : Hid (str (upp (lst (str (hostB (lst s.host))))) ++ ⟨#[58]⟩ ++ port = formH port s.host) := rfl
          have HHO := fun W => Host_any s.scheme s.host s.path W (Nat.le_trans hhs (by decide))
          have HUP := fun W => Upper_any (str (hostB (lst s.host))) W (Nat.le_trans hz1 (by decide))
          unfold stC stCells at hat
          unfold stCells at hv3 hW3
          simp only [] at hat hW3
          obtain ⟨x0, x1, x2, x3, x4, x5⟩ := row6 hat
          obtain ⟨y0, y1, y2, y3, y4, y5⟩ := row6 hv3
          simp only [Nat.zero_add] at y1 y2 y3 y4 y5
          clear hp hm hpK hat hset hrow hrow0 hown hz1 hhs hv3 hb3
          generalize str (upp (lst (str (hostB (lst s.host))))) = X at *
          generalize str (hostB (lst s.host)) = Z at *
          go_upto_region 7 with (fail)
          try rw [hW3]
          clear hW3 x0 x1 x2 x3 x4 x5
          go_wp2_with fail
          refine (HHO _).mono ?_
          rintro r w4 ⟨rfl, hb4⟩
          go_wp2_with fail
          refine (HUP _).mono ?_
          rintro r w5 ⟨rfl, hb5⟩
          have hb35 := hb4.trans (hb5.mono hb4.size)
          have hrow5 := Lib.hid (hrow3.out.keep hb35)
          have hbr5 := hbr3.trans (hb35.mono hbr3.size)
          have hat5 := hrow5.out.at HPK.out
          unfold stC stCells at hat5
          have o3 := hat5 3 _ rfl
          have f3 := hrow5.out.loose (k * 6 + 3)
          clear hat5 hb4 hb5 hb35 hrow3 HHO HUP hsz3 hbr3 y0 y1 y2 y3 y4 y5
          go_wp2
          go_roundw
          case rel =>
            refine ⟨k + 1, by omega, by go_num, Below.setCell (p := ⟨g, k * 6 + 3, none⟩) hbr5 hg _, ?_⟩
            show OwnS _ _ _ _
            have h := (hrow5.out.host HPK.out (X ++ ⟨#[58]⟩ ++ port)).own hg (by simpa [World.setCell] using hbr5.size)
            rw [List.length_set, hkl] at h
            rw [← HSET.out]
            have e : formP port (s, .slice ua un uc) = ({ s with host := X ++ ⟨#[58]⟩ ++ port }, .slice ua un uc) := by
              rw [HX.out]; rfl
            rw [e]
            exact h
          case measure => simp [intOf]; omega
        · have hk' : k = L.length := by omega
          subst hk'
          have hend := hown.out
          rw [formK_end] at hend
          have HEND := Lib.hid hend
          clear hown hend
          have hmapf : (L.map (formP port)).map (·.1) = ss.map (formS port) := by
            rw [← HL.out, List.map_map, List.map_map]
            rfl
          have hst0 : StepsAt wr wr.heap.size (.slice ao L.length cap) ((L.map (formP port)).map (·.1)) := steps_of_own HEND.out.1 fun p hp => by
            obtain ⟨p0, hp0, rfl⟩ := List.mem_map.1 hp
            exact SliceAt.up ((HCK.out p0 hp0).below hbr (Nat.le_refl _)) hbr.size
          rw [hmapf] at hst0
          have hS2 : StrsAt wr w.heap.size v sufs := hS1.below hbr hwB
          have hT2 := hT1.below hbr hwB
          have hbw := hb1.trans (hbr.mono hwB)
          have hwB2 : w.heap.size ≤ wr.heap.size := hbw.size
          have hfit2 : ∀ s ∈ ss.map (formS port), StFit s := fun s hs => by
            obtain ⟨s0, hs0, rfl⟩ := List.mem_map.1 hs
            have h := HFIT.out s0 hs0
            have h2 := HHOST.out s0 hs0
            have h3 := formH_size port s0.host
            exact ⟨h.1, by show (formH port s0.host).size ≤ 4294967296; omega, h.2.2⟩
          have HFIT2 := Lib.hid hfit2
          have hlm : (ss.map (formS port)).length = ss.length := List.length_map _
          have hlaw := fun (o1 o2 : List (List Ent)) (r1 : RunRel (pslOf listed sufs) noJar 0 ss o1) (r2 : RunRel (pslOf listed sufs) noJar 0 (ss.map (formS port)) o2) => (law_form (f := formS port) (fun s _ => form_same port s) r1).unique r2
          have HLAW := Lib.hid hlaw
          clear hfit2 hmapf HEND hS1 hT1 hbr hb1 hb2 hlaw hlt
          generalize ss.map (formS port) = other at *
          have hcapx : L.length = ss.length := hLs
          rw [hLs] at hst0
          have HVAL1 := fun (X : World) (bb : Below wr.heap.size wr X) => Valid_any listed v vs sufs ss X.heap.size X (strs_at hS2 hwB2 bb) ((hT2.below bb hwB2).up (Nat.le_trans hwB2 bb.size)) (Nat.le_refl _) hsl.1 hsl.2 (by omega) HFIT.out
          have HVAL2 := fun (X : World) (bb : Below wr.heap.size wr X) => Valid_any listed v (.slice ao ss.length cap) sufs other X.heap.size X (strs_at hS2 hwB2 bb) (steps_on hst0 bb) (Nat.le_refl _) hsl.1 hsl.2 (by omega) HFIT2.out
          obtain ⟨vb1, hvb1⟩ : ∃ vb1, validB listed sufs ss = vb1 := ⟨_, rfl⟩
          obtain ⟨vb2, hvb2⟩ : ∃ vb2, validB listed sufs other = vb2 := ⟨_, rfl⟩
          have HVB1 := Lib.hid hvb1
          have HVB2 := Lib.hid hvb2
          rw [hvb1] at HVAL1
          rw [hvb2] at HVAL2
          have HV1 := Lib.hid HVAL1
          have HV2 := Lib.hid HVAL2
          have HST0 := Lib.hid hst0
          clear hvb1 hvb2 hLs HVAL1 HVAL2 hst0
          go_upto_region 9 with (fail)
          cases vb1
          · go_wp2_with fail
            refine (HV1.out _ (Below.refl _ _)).mono ?_
            rintro r w6 ⟨rfl, hb6⟩
            go_wp2
            go_returns
            exact ⟨rfl, hbw.trans (hb6.mono hwB2)⟩
          · go_wp2_with fail
            refine (HV1.out _ (Below.refl _ _)).mono ?_
            rintro r w6 ⟨rfl, hb6⟩
            cases vb2
            · go_wp2_with fail
              refine (HV2.out _ hb6).mono ?_
              rintro r w7 ⟨rfl, hb7⟩
              go_wp2
              go_returns
              exact ⟨rfl, hbw.trans ((bel_on hb6 hb7).mono hwB2)⟩
            · go_wp2_with fail
              refine (HV2.out _ hb6).mono ?_
              rintro r w7 ⟨rfl, hb7⟩
              have hb67 := bel_on hb6 hb7
              have hB7 := hB.below (hbw.trans (hb67.mono hwB2))
              have hg1 := valid_good HVB1.out HFIT.out
              have hlen := fun (o : List (List Ent)) (h : RunRel (pslOf listed sufs) noJar 0 ss o) => run_len h (fun s hs => ⟨(hg1.1 s hs).ok, (hg1.1 s hs).few⟩) hg1.2.1
              have HLEN := Lib.hid hlen
              have hl64 := hg1.2.1
              have HR1 := Run_args (listed := listed) (run_args (strs_at hS2 hwB2 hb67) ((hT2.below hb67 hwB2).up (Nat.le_trans hwB2 hb67.size)) hsl HVB1.out HFIT.out) hB7
              clear hg1 hlen HV1 HV2 hb6 hb7
              go_wp2_with fail
              refine HR1.mono ?_
              rintro r w8 ⟨u1, o1, rfl, hrel1, hp1, hb8⟩
              have hb68 := bel_on hb67 hb8
              have hB8 := hB7.below hb8
              have HR2 := Run_args (listed := listed) (run_args (strs_at hS2 hwB2 hb68) (steps_on HST0.out hb68) hsl HVB2.out HFIT2.out) hB8
              clear HR1
              go_wp2_with fail
              refine HR2.mono ?_
              rintro r w9 ⟨u2, o2, rfl, hrel2, hp2, hb9⟩
              obtain rfl := HLAW.out o1 o2 hrel1 hrel2
              have hp1' := hp1.below hb9
              have hk1 := hrel1.len
              have hol := HLEN.out o1 hrel1
              have hEF := eqFunc_any hp1' hp2 (by rw [pairsOf_len]; omega) (fun ps hps => by
                unfold pairsOf at hps
                obtain ⟨M, hM, rfl⟩ := List.mem_map.1 hps
                exact hol M hM)
              have hbw9 := hbw.trans ((bel_on hb68 hb9).mono hwB2)
              have hB9 := hB8.below hb9
              clear HR2 hol hp1 hp2 hp1' hk1 HLAW HLEN
              generalize pairsOf o1 = P at *
              go_wp2_with fail
              refine hEF.mono ?_
              rintro r w10 ⟨rfl, hb10⟩
              have HAL := alive_any w10 (hB9.below hb10)
              clear hEF
              go_wp2_with fail
              refine HAL.mono ?_
              rintro r w11 ⟨rfl, hb11⟩
              go_wp2
              go_returns
              exact ⟨rfl, bel_on (bel_on hbw9 hb10) hb11⟩
end Go.Proofs.YtcofblepdfjhjaaDoor

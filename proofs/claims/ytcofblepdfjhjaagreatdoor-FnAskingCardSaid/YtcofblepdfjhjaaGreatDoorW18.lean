/- Walks: the jar's keys. -/
import Derived.Test.YtcofblepdfjhjaaGreatDoorW17
import Derived.Handy
namespace Go.Proofs.YtcofblepdfjhjaaGreatDoor
open Go.RowKit
/-- A list of public suffixes, or none, as the jar holds it. -/
def PslAt (w : World) (B : Nat) (pv : Value) : Option (List ByteArray) → Prop
  | none => pv = .nilIface
  | some sufs => ∃ v, pv = .iface 66 v ∧ StrsAt w B v sufs ∧ sufs.length ≤ 2147483647 ∧ ∀ x ∈ sufs, x.size ≤ 2147483647
theorem PslAt.below {w w' : World} {B B' : Nat} {pv : Value} {psl : Option (List ByteArray)} (h : PslAt w B pv psl) (hb : Below B' w w') (hB : B ≤ B') : PslAt w' B pv psl := by
  cases psl with
  | none => exact h
  | some sufs => obtain ⟨v, h1, h2, h3⟩ := h; exact ⟨v, h1, h2.below hb hB, h3⟩
/-- The part of a host from behind the last dot ahead of place i - 1. -/
def keyFrom (host : ByteArray) (i : Nat) : ByteArray := str ((lst host).drop (lastIdx 46 ((lst host).take (i - 1)) + 1).toNat)
def keyOf (psl : Option (List ByteArray)) (host : ByteArray) : ByteArray :=
  if (ip4 (lst host)).2 then host else
  match psl with
  | none => if lastIdx 46 (lst host) ≤ 0 then host else keyFrom host (lastIdx 46 (lst host)).toNat
  | some sufs =>
    if pubSuf sufs host = host then host
    else if host.size ≤ (pubSuf sufs host).size ∨ (((lst host).getD (host.size - (pubSuf sufs host).size - 1) 0).toNat : Int) ≠ 46 then host
    else keyFrom host (host.size - (pubSuf sufs host).size)
theorem pubSuf_size (sufs : List ByteArray) (d : ByteArray) (hsz : ∀ x ∈ sufs, x.size ≤ 2147483647) : (pubSuf sufs d).size ≤ max d.size 2147483647 := by
  have key : ∀ (l : List ByteArray) (o : Option ByteArray), (∀ x ∈ l, x.size ≤ 2147483647) → (∀ x, o = some x → x.size ≤ 2147483647) → ∀ y, pubGo d o l = some y → y.size ≤ 2147483647 := by
    intro l
    induction l with
    | nil => intro o _ h y hy; cases o <;> exact h y hy
    | cons s r ih =>
      intro o hl h y hy
      have hr : ∀ x ∈ r, x.size ≤ 2147483647 := fun x hx => hl x (List.mem_cons_of_mem _ hx)
      have hs := hl s List.mem_cons_self
      cases o with
      | none => exact ih _ hr (fun x hx => by split at hx <;> cases hx; exact hs) y hy
      | some b => exact ih _ hr (fun x hx => by split at hx <;> cases hx; exact hs; exact h _ rfl) y hy
  unfold pubSuf
  cases h : pubGo d none sufs with
  | none => simp only [Option.getD_none, afterDot]; rw [str_size, List.length_drop, lst_len]; omega
  | some y => have := key sufs none hsz (fun x hx => by cases hx) y h; simp only [Option.getD_some]; omega
set_option maxRecDepth 100000 in
set_option maxHeartbeats 1600000 in
theorem jarKey_any (psl : Option (List ByteArray)) (pv : Value) (B : Nat) (host : ByteArray) (w : World) (h : PslAt w B pv psl) (hd : host.size ≤ 4294967296)
    (h1 : ∀ x ∈ lst host, (x.toNat : Int) ≠ 58) (h2 : ∀ x ∈ lst host, (x.toNat : Int) ≠ 37) :
    Calls Tryz.prog 56 #[.string host, pv] w fun r w' => r = .returned (.string (keyOf psl host)) ∧ w = w' := by
  have HIP : ∀ W, _ := fun W => isIP_any host W (by omega) h1 h2
  have Hip := Lib.hid HIP
  clear HIP h1 h2
  have hlen := lst_len host
  have hl1 := lastIdx_le 46 (lst host) (lst host).length
  rw [show lastGo 46 (lst host) (lst host).length = lastIdx 46 (lst host) from rfl, hlen] at hl1
  cases hip : (ip4 (lst host)).2
  · have Hi := Lib.hid hip
    cases psl with
    | none =>
      cases (h : pv = .nilIface)
      by_cases h0 : lastIdx 46 (lst host) ≤ 0
      · have HK : Hid (keyOf none host = host) := by show _ = _; simp [keyOf, hip, h0]
        generalize hg : lastIdx 46 (lst host) = i at *
        have Hg := Lib.hid hg
        clear hg hip hlen
        go_enter Tryz.func56, Tryz.ntmps56
        go_wp2_with fail
        refine (Hip.out _).mono ?_
        rintro r w' ⟨rfl, rfl⟩
        rw [Hi.out]
        go_wp2_with fail
        refine (zzLastIndex_any host _ _ (by omega)).mono ?_
        rintro r w' ⟨rfl, rfl⟩
        rw [Hg.out]
        go_wp2
        go_ret
        exact ⟨ret_str HK.out.symm, rfl⟩
      · obtain ⟨q, hq⟩ : ∃ q : Nat, lastIdx 46 (lst host) = ((q + 1 : Nat) : Int) := ⟨(lastIdx 46 (lst host)).toNat - 1, by omega⟩
        have hqs : q + 1 ≤ host.size := by omega
        have hp := lastIdx_le 46 (lst (host.extract 0 q)) (lst (host.extract 0 q)).length
        rw [show ∀ l, lastGo 46 l l.length = lastIdx 46 l from fun _ => rfl, extract_to, List.length_take, hlen] at hp
        have HK : Hid (keyOf none host = str ((lst host).drop (lastIdx 46 ((lst host).take q) + 1).toNat)) := by show _ = _; simp [keyOf, hip, hq, keyFrom]; omega
        obtain ⟨p, hpp⟩ : ∃ p : Nat, lastIdx 46 ((lst host).take q) + 1 = (p : Int) := ⟨(lastIdx 46 ((lst host).take q) + 1).toNat, by omega⟩
        have hps : p ≤ host.size := by omega
        have Hext : Hid (lastIdx 46 (lst (host.extract 0 q)) = (p : Int) - 1) := by show _ = _; rw [extract_to]; omega
        have HX : Hid (host.extract p host.size = keyOf none host) := by
          show _ = _
          refine lst_inj ?_
          rw [HK.out, extract_from, lst_str, hpp]; rfl
        have Hq := Lib.hid hq
        have hqsz : (host.extract 0 q).size ≤ 9223372036854775807 := by rw [ByteArray.size_extract]; omega
        clear hq hip hlen h0 hl1 hp hpp HK
        generalize keyOf none host = kk at *
        generalize hee : host.extract 0 q = ee at *
        have Hee := Lib.hid hee
        clear hee
        have e1 : IntKind.i64.wrap ((q : Int) + 1 - 1) = (q : Int) := by rw [IntWalk.i64_in _ (by omega)]; omega
        have e2 : ((q + 1 : Nat) : Int) = (q : Int) + 1 := rfl
        go_enter Tryz.func56, Tryz.ntmps56
        go_wp2_with fail
        refine (Hip.out _).mono ?_
        rintro r w' ⟨rfl, rfl⟩
        rw [Hi.out]
        go_wp2_with fail
        refine (zzLastIndex_any host _ _ (by omega)).mono ?_
        rintro r w' ⟨rfl, rfl⟩
        rw [Hq.out]
        go_wp2_with fail
        rw [Hee.out]
        refine (zzLastIndex_any ee _ _ hqsz).mono ?_
        rintro r w' ⟨rfl, rfl⟩
        rw [Hext.out]
        go_wp2
        go_ret
        exact ⟨ret_str HX.out, rfl⟩
    | some sufs =>
      obtain ⟨v, rfl, hv, hvl, hvs⟩ := h
      have hus := pubSuf_size sufs host hvs
      have HKd : keyOf (some sufs) host = if pubSuf sufs host = host then host else if host.size ≤ (pubSuf sufs host).size ∨ (((lst host).getD (host.size - (pubSuf sufs host).size - 1) 0).toNat : Int) ≠ 46 then host else keyFrom host (host.size - (pubSuf sufs host).size) := by simp [keyOf, hip]
      generalize hug : pubSuf sufs host = u at *
      have Hu := Lib.hid hug
      clear hug hip hl1
      by_cases c1 : u = host
      · have HK : Hid (keyOf (some sufs) host = host) := by show _ = _; rw [HKd, if_pos c1]
        clear HKd
        have c1' : (u.toList == host.toList) = true := by rw [beq_str, decide_eq_true c1]
        go_enter Tryz.func56, Tryz.ntmps56
        go_wp2_with fail
        refine (Hip.out _).mono ?_
        rintro r w' ⟨rfl, rfl⟩
        rw [Hi.out]
        go_wp2_with fail
        refine (PublicSuffix_any v sufs B host _ hv hvl hvs (by omega)).mono ?_
        rintro r w' ⟨rfl, rfl⟩
        rw [Hu.out]
        go_wp2
        go_ret
        exact ⟨ret_str HK.out.symm, rfl⟩
      · rw [if_neg c1] at HKd
        have c1' : (u.toList == host.toList) = false := by rw [beq_str, decide_eq_false c1]
        clear c1
        by_cases c2 : host.size ≤ u.size
        · have HK : Hid (keyOf (some sufs) host = host) := by show _ = _; rw [HKd, if_pos (Or.inl c2)]
          clear HKd
          go_enter Tryz.func56, Tryz.ntmps56
          go_wp2_with fail
          refine (Hip.out _).mono ?_
          rintro r w' ⟨rfl, rfl⟩
          rw [Hi.out]
          go_wp2_with fail
          refine (PublicSuffix_any v sufs B host _ hv hvl hvs (by omega)).mono ?_
          rintro r w' ⟨rfl, rfl⟩
          rw [Hu.out]
          go_wp2
          go_ret
          exact ⟨ret_str HK.out.symm, rfl⟩
        · obtain ⟨q, hq⟩ : ∃ q, host.size - u.size - 1 = q := ⟨_, rfl⟩
          have hql : q < host.size := by omega
          have e0 : IntKind.i64.wrap ((host.size : Int) - u.size) = (q : Int) + 1 := by rw [IntWalk.i64_in _ (by omega)]; omega
          have e1 : IntKind.i64.wrap ((q : Int) + 1 - 1) = (q : Int) := by rw [IntWalk.i64_in _ (by omega)]; omega
          have eh : (host.size : Int) - u.size = (q : Int) + 1 := by omega
          rw [hq, getD_lst host q hql] at HKd
          have hq1 : host.size - u.size = q + 1 := by omega
          rw [hq1] at HKd
          by_cases c3 : (host[q].toNat : Int) = 46
          · have HK1 : keyOf (some sufs) host = keyFrom host (q + 1) := by rw [HKd, if_neg (by rintro (h | h); exact c2 h; exact h c3)]
            have c3' : ((host[q].toNat : Int) != 46) = false := by simp [c3]
            have hz : decide ((q : Int) + 1 ≤ 0) = false := decide_eq_false (by omega)
            have hp := lastIdx_le 46 (lst (host.extract 0 q)) (lst (host.extract 0 q)).length
            rw [show ∀ l, lastGo 46 l l.length = lastIdx 46 l from fun _ => rfl, extract_to, List.length_take, hlen] at hp
            obtain ⟨p, hpp⟩ : ∃ p : Nat, lastIdx 46 ((lst host).take q) + 1 = (p : Int) := ⟨(lastIdx 46 ((lst host).take q) + 1).toNat, by omega⟩
            have hps : p ≤ host.size := by omega
            have Hext : Hid (lastIdx 46 (lst (host.extract 0 q)) = (p : Int) - 1) := by show _ = _; rw [extract_to]; omega
            have HX : Hid (host.extract p host.size = keyOf (some sufs) host) := by
              show _ = _
              refine lst_inj ?_
              rw [HK1, keyFrom, extract_from, lst_str, show q + 1 - 1 = q from rfl, hpp]; rfl
            have hqsz : (host.extract 0 q).size ≤ 9223372036854775807 := by rw [ByteArray.size_extract]; omega
            clear HKd HK1 hp hpp hlen c3 hq hq1
            generalize keyOf (some sufs) host = kk at *
            generalize hee : host.extract 0 q = ee at *
            have Hee := Lib.hid hee
            clear hee
            go_enter Tryz.func56, Tryz.ntmps56
            go_wp2_with fail
            refine (Hip.out _).mono ?_
            rintro r w' ⟨rfl, rfl⟩
            rw [Hi.out]
            go_wp2_with fail
            refine (PublicSuffix_any v sufs B host _ hv hvl hvs (by omega)).mono ?_
            rintro r w' ⟨rfl, rfl⟩
            rw [Hu.out]
            go_wp2_with fail
            rw [Hee.out]
            refine (zzLastIndex_any ee _ _ hqsz).mono ?_
            rintro r w' ⟨rfl, rfl⟩
            rw [Hext.out]
            go_wp2
            go_ret
            exact ⟨ret_str HX.out, rfl⟩
          · have HK : Hid (keyOf (some sufs) host = host) := by show _ = _; rw [HKd, if_pos (Or.inr c3)]
            have c3' : ((host[q].toNat : Int) != 46) = true := by simp [c3]
            have hz : decide ((q : Int) + 1 ≤ 0) = false := decide_eq_false (by omega)
            clear HKd hlen c3 hq hq1
            go_enter Tryz.func56, Tryz.ntmps56
            go_wp2_with fail
            refine (Hip.out _).mono ?_
            rintro r w' ⟨rfl, rfl⟩
            rw [Hi.out]
            go_wp2_with fail
            refine (PublicSuffix_any v sufs B host _ hv hvl hvs (by omega)).mono ?_
            rintro r w' ⟨rfl, rfl⟩
            rw [Hu.out]
            go_wp2
            go_ret
            exact ⟨ret_str HK.out.symm, rfl⟩
  · have HK : Hid (keyOf psl host = host) := by show _ = _; simp [keyOf, hip]
    have Hi := Lib.hid hip
    clear hip
    go_enter Tryz.func56, Tryz.ntmps56
    go_wp2_with fail
    refine (Hip.out _).mono ?_
    rintro r w' ⟨rfl, rfl⟩
    rw [Hi.out]
    go_wp2
    go_ret
    exact ⟨ret_str HK.out.symm, rfl⟩
end Go.Proofs.YtcofblepdfjhjaaGreatDoor

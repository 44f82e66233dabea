/- Walks: the methods of an entry. -/
import Derived.Test.YtcofblepdfjhjaaGreatDoorW14
import Derived.IntWalk
namespace Go.Proofs.YtcofblepdfjhjaaGreatDoor
open Go.RowKit
/-- An entry of the jar, without the time of its last access. -/
structure Ent where
  name : ByteArray
  value : ByteArray
  domain : ByteArray
  path : ByteArray
  secure : Bool
  persistent : Bool
  hostOnly : Bool
  exp : Int
  cre : Int
  seq : Nat
def entCells (e : Ent) (la : Int) : List Value := [.string e.name, .string e.value, .bool false, .string e.domain, .string e.path, .bool e.secure, .bool false, .bool e.persistent, .bool e.hostOnly,
  .int .i64 e.exp, .int .i64 0, .int .i64 e.cre, .int .i64 0, .int .i64 la, .int .i64 0, .int .u64 e.seq]
def entVal (e : Ent) (la : Int) : Value := .agg (entCells e la).toArray
/-- What bounds an entry's strings. -/
def EntFit (e : Ent) : Prop := e.name.size ≤ 2147483647 ∧ e.value.size ≤ 2147483647 ∧ e.domain.size ≤ 4294967296 ∧ e.path.size ≤ 2147483647
theorem RowAt.at {w : World} {b o : Nat} {us : List Value} (h : RowAt w b o us) (i : Nat) (u : Value) (hu : us[i]? = some u) : w.cell? ⟨b, o + i, none⟩ = some u := h i u hu
/-- An entry's key. -/
def entId (e : Ent) : ByteArray := e.domain ++ ⟨#[59]⟩ ++ e.path ++ ⟨#[59]⟩ ++ e.name
set_option maxRecDepth 100000 in
set_option maxHeartbeats 800000 in
theorem id_any (e : Ent) (la : Int) (b o : Nat) (w : World) (h : RowAt w b o (entCells e la)) (hf : EntFit e) :
    Calls Tryz.prog 64 #[.pointer (some ⟨b, o, none⟩)] w fun r w' => r = .returned (.string (entId e)) ∧ Below w.heap.size w w' := by
  obtain ⟨f1, f2, f3, f4⟩ := hf
  have h3 := h.at 3 _ rfl
  have h4 := h.at 4 _ rfl
  have h0 : w.cell? ⟨b, o, none⟩ = some (.string e.name) := h.at 0 _ rfl
  clear h
  have HI : Hid (e.domain ++ ⟨#[59]⟩ ++ e.path ++ ⟨#[59]⟩ ++ e.name = entId e) := rfl
  go_enter Tryz.func64, Tryz.ntmps64
  go_wp2
  go_quiet (fail)
  go_wp2
  go_ret
  exact ⟨rfl, below_drewN (Below.refl _ _) _⟩
/-- Whether an entry's domain lets it be sent to a host. -/
def domMatch (e : Ent) (host : ByteArray) : Bool := decide (e.domain = host) || (!e.hostOnly && dotSuf (lst host) (lst e.domain))
theorem beq_str (a b : ByteArray) : (a.toList == b.toList) = decide (a = b) := by rw [beq_lst]; exact decide_congr (eq_iff_lst a b).symm
set_option maxRecDepth 100000 in
set_option maxHeartbeats 800000 in
theorem domainMatch_any (e : Ent) (la : Int) (b o : Nat) (host : ByteArray) (w : World) (h : RowAt w b o (entCells e la)) (hs : host.size ≤ 9223372036854775807) :
    Calls Tryz.prog 78 #[.pointer (some ⟨b, o, none⟩), .string host] w fun r w' => r = .returned (.bool (domMatch e host)) ∧ w = w' := by
  have h3 := h.at 3 _ rfl
  have h8 := h.at 8 _ rfl
  clear h
  unfold domMatch
  rw [← beq_str]
  cases hd : e.domain.toList == host.toList
  · rw [Bool.false_or]
    cases hh : e.hostOnly
    · rw [hh] at h8
      clear hh
      go_enter Tryz.func78, Tryz.ntmps78
      go_wp2_with fail
      refine (hasDotSuffix_any host e.domain _ hs).mono ?_
      rintro r w' ⟨rfl, rfl⟩
      go_wp2
      go_ret
      exact ⟨rfl, rfl⟩
    · rw [hh] at h8
      clear hh
      go_enter Tryz.func78, Tryz.ntmps78
      go_wp2
      go_ret
      exact ⟨rfl, rfl⟩
  · go_enter Tryz.func78, Tryz.ntmps78
    go_wp2
    go_ret
    exact ⟨rfl, rfl⟩
/-- Whether an entry's path lets it be sent to a path. -/
def patMatch (e : Ent) (p : ByteArray) : Bool := decide (p = e.path) || (hasPre (lst p) (lst e.path) && (decide ((((lst e.path).getD (e.path.size - 1) 0).toNat : Int) = 47) || decide ((((lst p).getD e.path.size 0).toNat : Int) = 47)))
set_option maxRecDepth 100000 in
set_option maxHeartbeats 800000 in
theorem pathMatch_any (e : Ent) (la : Int) (b o : Nat) (p : ByteArray) (w : World) (h : RowAt w b o (entCells e la)) (_hs : p.size ≤ 9223372036854775807) (h0 : 0 < e.path.size) (hp : e.path.size ≤ 9223372036854775807) :
    Calls Tryz.prog 79 #[.pointer (some ⟨b, o, none⟩), .string p] w fun r w' => r = .returned (.bool (patMatch e p)) ∧ Below w.heap.size w w' := by
  have h4 := h.at 4 _ rfl
  clear h
  cases hd : p.toList == e.path.toList
  · have hne : p ≠ e.path := by rw [beq_str] at hd; simpa using hd
    cases hpre : hasPre (lst p) (lst e.path)
    · have HP : Hid (patMatch e p = false) := by show _ = _; rw [patMatch, hpre, ← beq_str, hd]; rfl
      have Hpre := Lib.hid hpre
      clear hpre hne
      go_enter Tryz.func79, Tryz.ntmps79
      go_wp2_with fail
      refine (zzHasPrefix_any p e.path _).mono ?_
      rintro r w' ⟨rfl, rfl⟩
      rw [Hpre.out]
      go_wp2
      go_ret
      exact ⟨ret_bool HP.out.symm, Below.refl _ _⟩
    · have hlt : e.path.size < p.size := by
        unfold hasPre at hpre
        simp only [decide_eq_true_eq, lst_len] at hpre
        rcases Nat.lt_or_ge e.path.size p.size with hlt | hge
        · exact hlt
        · have he : e.path.size = p.size := by omega
          refine absurd (lst_inj ?_) hne
          rw [← hpre.2, he, ← lst_len, List.take_length]
      obtain ⟨q, hq⟩ : ∃ q, e.path.size - 1 = q := ⟨_, rfl⟩
      have hql : q < e.path.size := by omega
      have e1 : IntKind.i64.wrap ((e.path.size : Int) - 1) = (q : Int) := by rw [IntWalk.i64_in _ (by omega)]; omega
      have hq1 : (lst e.path).getD (e.path.size - 1) 0 = e.path[q] := by rw [hq]; exact getD_lst _ _ hql
      clear hq
      have hq2 : (lst p).getD e.path.size 0 = p[e.path.size] := getD_lst _ _ hlt
      have HP : patMatch e p = (decide ((e.path[q].toNat : Int) = 47) || decide ((p[e.path.size].toNat : Int) = 47)) := by rw [patMatch, hpre, hq1, hq2, ← beq_str, hd]; rfl
      have Hpre := Lib.hid hpre
      clear hpre hne hq1 hq2
      by_cases c1 : (e.path[q].toNat : Int) = 47
      · have HP' : Hid (patMatch e p = true) := by show _ = _; rw [HP, decide_eq_true c1]; rfl
        have c1' : ((e.path[q].toNat : Int) == 47) = true := by simp [c1]
        clear HP
        go_enter Tryz.func79, Tryz.ntmps79
        go_wp2_with fail
        refine (zzHasPrefix_any p e.path _).mono ?_
        rintro r w' ⟨rfl, rfl⟩
        rw [Hpre.out]
        go_wp2_with fail
        go_quiet (fail)
        go_wp2
        go_ret
        exact ⟨ret_bool HP'.out.symm, below_drewN (Below.refl _ _) _⟩
      · have c1' : ((e.path[q].toNat : Int) == 47) = false := by simp [c1]
        by_cases c2 : (p[e.path.size].toNat : Int) = 47
        · have HP' : Hid (patMatch e p = true) := by show _ = _; rw [HP, decide_eq_true c2]; simp
          have c2' : ((p[e.path.size].toNat : Int) == 47) = true := by simp [c2]
          clear HP
          go_enter Tryz.func79, Tryz.ntmps79
          go_wp2_with fail
          refine (zzHasPrefix_any p e.path _).mono ?_
          rintro r w' ⟨rfl, rfl⟩
          rw [Hpre.out]
          go_wp2_with fail
          go_quiet (fail)
          go_wp2
          go_ret
          exact ⟨ret_bool HP'.out.symm, below_drewN (Below.refl _ _) _⟩
        · have HP' : Hid (patMatch e p = false) := by show _ = _; rw [HP, decide_eq_false c1, decide_eq_false c2]; rfl
          have c2' : ((p[e.path.size].toNat : Int) == 47) = false := by simp [c2]
          clear HP
          go_enter Tryz.func79, Tryz.ntmps79
          go_wp2_with fail
          refine (zzHasPrefix_any p e.path _).mono ?_
          rintro r w' ⟨rfl, rfl⟩
          rw [Hpre.out]
          go_wp2_with fail
          go_quiet (fail)
          go_wp2
          go_ret
          exact ⟨ret_bool HP'.out.symm, below_drewN (Below.refl _ _) _⟩
  · have HP : Hid (patMatch e p = true) := by show _ = _; rw [patMatch, ← beq_str, hd]; rfl
    go_enter Tryz.func79, Tryz.ntmps79
    go_wp2
    go_ret
    exact ⟨ret_bool HP.out.symm, Below.refl _ _⟩
end Go.Proofs.YtcofblepdfjhjaaGreatDoor

/- Walks: cookies. -/
import Derived.Test.YtcofblepdfjhjaaGreatDoorAskSort
import Derived.Test.YtcofblepdfjhjaaGreatDoorW24
import Derived.Great.BuildSlice
namespace Go.Proofs.YtcofblepdfjhjaaGreatDoor
open Go.RowKit Go.Sort Go.Lib Go.MapKept
/-- The relation of the loop that gathers. -/
structure AskRel (w0 : World) (F G : Nat → Prop) (jb bm bs r : Nat) (pv : Value) (J : ByteArray → ByteArray → Option Ent) (n : Nat) (key : ByteArray) (E : ByteArray → Option Value) (S : ByteArray → Option Ent) (now : Int) (https : Bool) (host path : ByteArray) (wr : World) (v13 v14 : Value) : Prop where
  ex : ∃ (md : Bool) (left : ByteArray → Bool) (M : ByteArray → Option Value) (L : List Ent) (sv : Value), v13 = .bool md ∧ sv = v14 ∧ RangeIs wr bs r M left ∧ EntMap M (part now S left) ∧ Gath S now https host path left L ∧
    wr.ownsRow (w0.heap.size + 1) 109 16 sv L.length (L.flatMap (encE now)) ∧ JarRest wr jb pv G J n key bm E ∧ Chg F w0 wr ∧ wr.cell? ⟨w0.heap.size, 0, none⟩ = some (.int .i64 now) ∧ wr.cell? ⟨w0.heap.size, 1, none⟩ = some (.int .i64 0)
theorem own_chg {S : Nat → Prop} {w w' : World} {base : Nat} {e : TypeId} {sz : Nat} {v : Value} {n : Nat} {xs : List Value} (h : w.ownsRow base e sz v n xs) (hc : Chg S w w') (hn : ∀ k, v.ownBlock = some k → ¬ S k) : w'.ownsRow base e sz v n xs := by
  obtain ⟨hl, h0 | ⟨g, cap, cur, rfl, hb, hh, h1⟩⟩ := h
  · exact ⟨hl, Or.inl h0⟩
  · exact ⟨hl, Or.inr ⟨g, cap, cur, rfl, hb, (hc.block g (Array.getElem?_eq_some_iff.1 hh).1 (hn g rfl)).trans hh, h1⟩⟩
theorem own_not_iter {w : World} {base : Nat} {e : TypeId} {sz : Nat} {v : Value} {n : Nat} {xs : List Value} {b r : Nat} {M : ByteArray → Option Value} {left : ByteArray → Bool} (h : w.ownsRow base e sz v n xs) (hr : RangeIs w b r M left) : ∀ k, v.ownBlock = some k → k ≠ r ∧ k ≠ b := by
  intro k hk
  obtain ⟨es, clock, since, seen, c0, g1, _, _, g4, _⟩ := hr
  obtain ⟨hl, ⟨rfl, _⟩ | ⟨g, cap, cur, rfl, hb, hh, h1⟩⟩ := h
  · cases hk
  · cases hk
    exact ⟨fun e => (by have e' : g = r := e; rw [e', g4] at hh; cases hh), fun e => (by have e' : g = b := e; rw [e', g1] at hh; cases hh)⟩
theorem row_new_at (w : World) (us : List Value) (t : TypeId) : ∀ j u, us[j]? = some u → (w.alloc (.cells us.toArray t)).cell? ((⟨w.heap.size, 0, none⟩ : Addr).add j) = some u := by
  intro j u hu
  have h0 := RowAt.new w us t j u hu
  have e5 : (⟨w.heap.size, 0, none⟩ : Addr).add j = ⟨w.heap.size, 0 + j, none⟩ := by
    unfold Addr.add
    by_cases hj0 : j = 0
    · subst hj0; simp
    · simp [hj0]
  rw [e5]
  exact h0
theorem Tryz.infoEnt : (Tryz.prog.info? 109).map (fun i => (i.zero, i.size, i.bytes)) = some (some (entVal ⟨⟨#[]⟩, ⟨#[]⟩, ⟨#[]⟩, ⟨#[]⟩, false, false, false, 0, 0, 0⟩ 0), 16, 136) := by kernel_rfl
theorem ent_cells : (entVal ⟨⟨#[]⟩, ⟨#[]⟩, ⟨#[]⟩, ⟨#[]⟩, false, false, false, 0, 0, 0⟩ 0).cells.size = 16 := by kernel_rfl
theorem Tryz.infoPCk : (Tryz.prog.info? 79).map (fun i => (i.zero, i.size, i.bytes)) = some (some (.pointer none), 1, 8) := by kernel_rfl
theorem flat_snoc (now : Int) (L : List Ent) (e : Ent) : (L ++ [e]).flatMap (encE now) = L.flatMap (encE now) ++ encE now e := by simp
theorem load_ent_at {ops : Array Oper} {rest : List Oper} {op : Oper} {a : Act} {w : World} {Q : Exit → Act → World → Prop} (hgd : op.guard = none) (x : Operand) (ho : op.op = .load 109 x)
    (b o : Nat) (hx : a.eval x = .pointer (some ⟨b, o, none⟩)) (e : Ent) (la : Int) (hc : RowAt w b o (entCells e la))
    (h : wpList Tryz.prog ops Q rest (a.put op.dst (entVal e la)) w) : wpList Tryz.prog ops Q (op :: rest) a w := by
  obtain ⟨d, h1, h2⟩ := under_ent
  exact wpList_load_mid hgd 109 x ho b o hx (entCells e la) d hc h1 h2 info_ent h
theorem fill_ent (e : Ent) (la : Int) : Instr.fill (fun i => some (i * 16, 16)) ((Array.range (1 * 16)).map ((entVal ⟨⟨#[]⟩, ⟨#[]⟩, ⟨#[]⟩, ⟨#[]⟩, false, false, false, 0, 0, 0⟩ 0).cells[· % (entVal ⟨⟨#[]⟩, ⟨#[]⟩, ⟨#[]⟩, ⟨#[]⟩, false, false, false, 0, 0, 0⟩ 0).cells.size]!)) [(0, entVal e la)] = some (entCells e la).toArray := by kernel_rfl
theorem build_ent {ops : Array Oper} {rest : List Oper} {op : Oper} {a : Act} {w : World} {Q : Exit → Act → World → Prop} (hgd : op.guard = none) (x : Operand) (ho : op.op = .buildSlice 107 1 #[(0, x)])
    (e : Ent) (la : Int) (hx : a.eval x = entVal e la)
    (h : wpList Tryz.prog ops Q rest (a.put op.dst (.slice (some ⟨w.heap.size, 0, none⟩) 1 1)) (w.alloc (.cells (entCells e la).toArray 109))) : wpList Tryz.prog ops Q (op :: rest) a w := by
  obtain ⟨i0, hi, hz0, hz1, hz2⟩ := info_parts Tryz.infoEnt
  refine wpList_buildSlice hgd 107 109 1 #[(0, x)] ho (entCells e la).toArray i0 _ Tryz.underlying107 hi hz0 (by rw [hz1]; decide) (by rw [hz1]; decide) ?_ h
  rw [hz1]
  have : (#[(0, x)].map fun (p : Nat × Operand) => (p.1, a.eval p.2)).toList = [(0, entVal e la)] := by simp [hx]
  exact (congrArg (Instr.fill _ _) this).trans (fill_ent e la)
/-- The cells of a cookie that is sent. -/
def ckC (e : Ent) : Array Value := #[.string e.name, .string e.value, .bool false, .string ⟨#[]⟩, .string ⟨#[]⟩, .int .i64 0, .int .i64 0, .int .i64 0, .bool false, .bool false]
/-- Pointers to what is sent. -/
def SentPtr (w : World) (B : Nat) (v : Value) (L : List Ent) : Prop :=
  ∃ ao off cap, v = .slice ao L.length cap ∧ (0 < L.length → ∃ b, ao = some ⟨b, off, none⟩ ∧ B ≤ b ∧ b < w.heap.size ∧
    ∀ j e, L[j]? = some e → ∃ cb, w.cell? ⟨b, off + j, none⟩ = some (.pointer (some ⟨cb, 0, none⟩)) ∧ B ≤ cb ∧ cb < w.heap.size ∧ w.cell? ⟨cb, 0, none⟩ = some (.string e.name) ∧ w.cell? ⟨cb, 1, none⟩ = some (.string e.value))
/-- What Cookies leaves. -/
def AskPost (jb : Nat) (pv : Value) (F : Nat → Prop) (J' : ByteArray → ByteArray → Option Ent) (n : Nat) (Q : List Ent → Prop) (w : World) (r : Ending) (w' : World) : Prop :=
  ∃ v L F', r = .returned v ∧ Q L ∧ SentPtr w' w.heap.size v L ∧ JarAt w' jb pv F' J' n ∧ Chg F w w' ∧ ∀ b, F' b → F b
def PsOK (wr : World) (base : Nat) (PS : List Nat) (L : List Ent) : Prop := ∀ (j b : Nat) (e : Ent), PS[j]? = some b → L[j]? = some e → base ≤ b ∧ b < wr.heap.size ∧ wr.heap[b]? = some (.cells (ckC e) 81)
def ptrV (b : Nat) : Value := .pointer (some ⟨b, 0, none⟩)
theorem ps_step {wr w9 : World} {v6 : Value} {base k : Nat} {PS : List Nat} {L : List Ent} {e : Ent} {xs : List Value} (o1 : Obj) (v : Value) (hown : wr.ownsRow base 79 1 v6 k xs) (hgrow : (((wr.alloc o1).alloc (.cells (ckC e) 81)).alloc (.cells #[v] 79)).grownBy w9 v6.ownBlock)
    (hb : base ≤ wr.heap.size) (hPS : PS.length = k) (hek : L[k]? = some e) (hps : PsOK wr base PS L) : PsOK w9 base (PS ++ [wr.heap.size + 1]) L := by
  have hC := Chg.of_grown hgrow
  have hs := hC.size
  have hs' : (((wr.alloc o1).alloc (.cells (ckC e) 81)).alloc (.cells #[v] 79)).heap.size = wr.heap.size + 3 := by simp
  have hal : ∀ b, b < wr.heap.size → (((wr.alloc o1).alloc (.cells (ckC e) 81)).alloc (.cells #[v] 79)).heap[b]? = wr.heap[b]? := fun b h => by
    rw [(heap_alloc _ _).2 b (by simp; omega), (heap_alloc _ _).2 b (by simp; omega), (heap_alloc _ _).2 b h]
  intro j b e' hj he'
  by_cases hjk : j < PS.length
  · rw [List.getElem?_append_left hjk] at hj
    obtain ⟨h1, h2, h3⟩ := hps j b e' hj he'
    have hne : ¬ v6.ownBlock = some b := by
      intro hk
      obtain ⟨_, ⟨rfl, _⟩ | ⟨g, cap, cur, rfl, _, hh, _⟩⟩ := hown
      · cases hk
      · have hgb : g = b := Option.some.inj hk
        subst hgb
        rw [h3] at hh
        simp at hh
    refine ⟨h1, by omega, ?_⟩
    rw [hC.block b (by omega) hne, hal b h2]; exact h3
  · rw [List.getElem?_append_right (by omega)] at hj
    have hj0 : j = PS.length := by
      by_cases h0 : j - PS.length = 0
      · omega
      · obtain ⟨q, hq⟩ : ∃ q, j - PS.length = q + 1 := ⟨j - PS.length - 1, by omega⟩
        rw [hq] at hj; simp at hj
    subst hj0
    simp only [Nat.sub_self, List.getElem?_cons_zero, Option.some.injEq] at hj
    rw [hPS, hek] at he'
    cases he'
    subst hj
    have hne : ¬ v6.ownBlock = some (wr.heap.size + 1) := fun hk => by have := (hown.lt _ hk).2; omega
    refine ⟨by omega, by omega, ?_⟩
    rw [hC.block _ (by omega) hne, (heap_alloc _ _).2 _ (by simp)]
    have := (heap_alloc (wr.alloc o1) (.cells (ckC e) 81)).1
    simpa using this
theorem sentptr_of {w : World} {base B : Nat} {v : Value} {PS : List Nat} {L : List Ent} (hown : w.ownsRow base 79 1 v L.length (PS.map ptrV)) (hPS : PS.length = L.length) (hps : PsOK w base PS L) (hB : B ≤ base) : SentPtr w B v L := by
  have hc := fun g hg => hown.cells (g := g) hg
  obtain ⟨_, ⟨rfl, h0⟩ | ⟨g, cap, cur, rfl, hb, hh, _⟩⟩ := hown
  · exact ⟨none, 0, 0, by rw [h0], fun h => by omega⟩
  · refine ⟨_, 0, cap, rfl, fun _ => ⟨g, rfl, by omega, (Array.getElem?_eq_some_iff.1 hh).1, fun j e he => ?_⟩⟩
    have hj : j < L.length := (List.getElem?_eq_some_iff.1 he).1
    have hpj : PS[j]? = some (PS[j]'(by omega)) := List.getElem?_eq_getElem (by omega)
    generalize PS[j]'(by omega) = b at hpj
    obtain ⟨h1, h2, h3⟩ := hps j b e hpj he
    have h4 := hc g rfl j (ptrV b) (by rw [List.getElem?_map, hpj]; rfl)
    have e5 : (⟨g, 0, none⟩ : Addr).add j = ⟨g, 0 + j, none⟩ := by
      unfold Addr.add
      by_cases hj0 : j = 0
      · subst hj0; simp
      · simp [hj0]
    rw [e5] at h4
    exact ⟨b, h4, by omega, h2, by simp [World.cell?, h3, ckC], by simp [World.cell?, h3, ckC]⟩
theorem SentPtr.nil (w : World) (B : Nat) : SentPtr w B (.slice none 0 0) [] := ⟨none, 0, 0, rfl, fun h => absurd h (by simp)⟩
theorem Sent.nil {S : ByteArray → Option Ent} (h : ∀ id, S id = none) (now : Int) (https : Bool) (host path : ByteArray) : Sent S now https host path [] :=
  ⟨List.Pairwise.nil, fun e => ⟨fun h => (by cases h), fun ⟨id, h1, _⟩ => by rw [h] at h1; cases h1⟩⟩
theorem purge_nil {S : ByteArray → Option Ent} (h : ∀ id, S id = none) (now : Int) : purge now S = S := by
  funext id; unfold purge; rw [h id]; rfl
set_option maxRecDepth 100000 in
set_option maxHeartbeats 16000000 in
theorem cookies_any (psl : Option (List ByteArray)) (pv : Value) (B jb ub : Nat) (F : Nat → Prop) (J : ByteArray → ByteArray → Option Ent) (n : Nat) (s : PStep) (w : World)
    (hJ : JarAt w jb pv F J n) (hJO : JOK J n) (hP : PslAt w B pv psl) (hB : B ≤ w.heap.size) (hFw : ∀ b, F b → b < w.heap.size)
    (hu : RowAt w ub 0 [.string s.scheme, .string s.host, .string s.path]) (hub : ub < w.heap.size) (hok : StepOK s) (hn : n ≤ 1000000) :
    Calls Tryz.prog 43 #[.pointer (some ⟨jb, 0, none⟩), .pointer (some ⟨ub, 0, none⟩), tv s.tm] w
      (AskPost jb pv F (askJ psl s J) n (AskL psl J s) w) := by
  obtain ⟨st, now, sc, ho, pa, cks⟩ := s
  obtain ⟨hH, hnow, hho, hpa, _, _⟩ := hok
  have u0 : w.cell? ⟨ub, 0, none⟩ = some (.string sc) := hu.at 0 _ rfl
  have u1 : w.cell? ⟨ub, 1, none⟩ = some (.string ho) := by simpa using hu.at 1 _ rfl
  have u2 : w.cell? ⟨ub, 2, none⟩ = some (.string pa) := by simpa using hu.at 2 _ rfl
  simp only [] at hH hnow hho hpa ⊢
  unfold tv askJ AskL
  simp only [] at *
  have hal := (Below.refl w.heap.size w).alloc (Nat.le_refl _)
  cases hweb : isWeb sc
  · rw [if_pos rfl]
    unfold isWeb at hweb
    rw [Bool.or_eq_false_iff] at hweb
    have w1 : (sc.toList == [104, 116, 116, 112]) = false := by rw [toList_lst, beq_eq_false_iff_ne]; exact fun e => of_decide_eq_false hweb.1 (lst_inj e)
    have w2 : (sc.toList == [104, 116, 116, 112, 115]) = false := by rw [toList_lst, beq_eq_false_iff_ne]; exact fun e => of_decide_eq_false hweb.2 (lst_inj e)
    clear hweb hu u1 u2 hn hH
    go_enter Tryz.func43, Tryz.ntmps43
    go_wp2
    go_returns
    exact ⟨_, [], F, rfl, rfl, SentPtr.nil _ _, hJ.chg (Chg.of_new (hal _) (fun _ => False)) (fun _ _ e => e), Chg.of_new (hal _) _, fun b hb => hb⟩
  · rw [if_neg (by simp)]
    have Hweb := Lib.hid hweb
    have HSlow := hH.1.low
    have hhl := host_len hH
    rw [lst_len] at hhl
    have hst : hostOf ⟨st, now, sc, ho, pa, cks⟩ = str (low (splitB (lst ho)).1) := rfl
    rw [hst]
    have n58 : ∀ x ∈ lst (str (low (splitB (lst ho)).1)), (x.toNat : Int) ≠ 58 := by rw [lst_str]; exact HSlow.none 58 (by omega)
    have n37 : ∀ x ∈ lst (str (low (splitB (lst ho)).1)), (x.toNat : Int) ≠ 37 := by rw [lst_str]; exact HSlow.none 37 (by omega)
    have hhs : (str (low (splitB (lst ho)).1)).size ≤ 4294967296 := by rw [str_size, low_len]; omega
    have HCH := fun W => canonicalHost_any ho (splitB (lst ho)).1 W (by omega) hH
    generalize hhost : str (low (splitB (lst ho)).1) = host at *
    clear hhost HSlow hhl hweb hst hH
    generalize hkey : keyOf psl host = key at *
    have Hkey := Lib.hid hkey
    clear hkey
    have HJK := fun W hW => jarKey_any psl pv B host W hW (by omega) n58 n37
    have HSOK := hJO key
    go_enter Tryz.func43, Tryz.ntmps43
    go_upto_region 1 with (fail)
    go_cut [30] (fun s wx => s = .bool false ∧ Below w.heap.size w wx ∧ wx.heap.size = w.heap.size + 1 ∧ wx.cell? ⟨w.heap.size, 0, none⟩ = some (.int .i64 now) ∧ wx.cell? ⟨w.heap.size, 1, none⟩ = some (.int .i64 0))
    case first =>
      have hw := Hweb.out
      unfold isWeb at hw
      by_cases w1 : sc = ⟨#[104, 116, 116, 112]⟩
      · subst w1
        clear hw
        go_wp2_with fail
        go_meet
        exact ⟨rfl, (Below.refl _ _).alloc (Nat.le_refl _) _, by simp, by simp [go_sem], by simp [go_sem]⟩
      · rw [decide_eq_false w1, Bool.false_or] at hw
        have w2 := of_decide_eq_true hw
        subst w2
        clear hw w1
        go_wp2_with fail
        go_meet
        exact ⟨rfl, (Below.refl _ _).alloc (Nat.le_refl _) _, by simp, by simp [go_sem], by simp [go_sem]⟩
    case rest =>
      obtain ⟨rfl, hb0, hs0, k0, k1⟩ := hcut
      have u1' := (hb0.cell (p := ⟨ub, 1, none⟩) hub).trans u1
      clear u0 u1 u2
      go_wp2_with fail
      refine (HCH _).mono ?_
      rintro r w1 ⟨rfl, hb1⟩
      have hb01 := hb0.trans (hb1.mono (by omega))
      have hs1 := hb1.size
      have u0 : w1.cell? ⟨ub, 0, none⟩ = some (.string sc) := by simpa using (hu.below hb01 hub).at 0 _ rfl
      have u2 : w1.cell? ⟨ub, 2, none⟩ = some (.string pa) := by simpa using (hu.below hb01 hub).at 2 _ rfl
      have hC1 : Chg F w w1 := Chg.of_new hb01 _
      have hJ1 := hJ.chg (Chg.of_new hb01 (fun _ => False)) (fun _ _ e => e)
      obtain ⟨bm, E, G, hR, hG, hsub⟩ := hJ1.open key
      have j0 : w1.cell? ⟨jb, 0, none⟩ = some pv := hR.row.at 0 _ rfl
      have j1 : w1.cell? ⟨jb, 1, none⟩ = some (.map (some bm)) := by simpa using hR.row.at 1 _ rfl
      have k0' := (hb1.cell (p := ⟨w.heap.size, 0, none⟩) (by simp; omega)).trans k0
      have k1' := (hb1.cell (p := ⟨w.heap.size, 1, none⟩) (by simp; omega)).trans k1
      have hPw := hP.below hb01 hB
      clear k0 k1 hb0 hJ hJ1 hP
      have hlook := hR.map.lookup (P := Tryz.prog) Tryz.underlying88 Tryz.underlying9 (zero_map w1) key
      rcases hsub with ⟨hEk, hnone⟩ | ⟨bs, M, hEk, hF, hGn, hne, hM, hEM⟩
      · have hEnd := hR.close_none hEk hnone
        rw [updJ_same] at hEnd
        have HJ : Hid (updJ J key (purge now (J key)) = J ∧ Sent (J key) now (isHttps sc) host (askPath pa) []) := ⟨by rw [purge_nil hnone, updJ_same], Sent.nil hnone _ _ _ _⟩
        rw [hEk] at hlook
        simp only [Option.getD_none] at hlook
        clear hEk hnone
        go_wp2_with fail
        refine (HJK _ hPw).mono ?_
        rintro r w' ⟨rfl, rfl⟩
        rw [Hkey.out]
        go_wp2
        go_returns
        rw [HJ.out.1]
        exact ⟨_, [], _, rfl, HJ.out.2, SentPtr.nil _ _, hEnd, hC1, fun b hb => (hG b hb).1⟩
      · rw [hEk] at hlook
        simp only [Option.getD_some] at hlook
        have HEk := Lib.hid hEk
        clear hEk
        go_wp2_with fail
        refine (HJK _ hPw).mono ?_
        rintro r w' ⟨rfl, rfl⟩
        rw [Hkey.out]
        clear HCH HJK n58 n37
        have hq : (sc.toList == [104, 116, 116, 112, 115]) = isHttps sc := by
          rw [toList_lst, isHttps, Bool.eq_iff_iff, beq_iff_eq, decide_eq_true_eq]
          exact ⟨fun e => lst_inj e, fun e => by rw [e]; rfl⟩
        have hpe : pa.toList.isEmpty = decide (pa.size = 0) := by rw [empty_lst]; exact decide_congr (size_zero pa).symm
        have hap : (askPath pa).size ≤ 2147483647 ∧ 0 < (askPath pa).size := by
          unfold askPath
          split
          · decide
          · omega
        go_upto_if 68 with (fail)
        go_cut [12] (fun v12 wx => v12 = .string (askPath pa) ∧ wx = w1)
        case first =>
          clear hpe hap hq
          by_cases hp0 : pa = ByteArray.empty
          · subst hp0
            have Hp : Hid (askPath ByteArray.empty = ⟨#[47]⟩) := rfl
            go_wp2
            go_meet
            exact ⟨by rw [Hp.out], rfl⟩
          · have Hp : Hid (askPath pa = pa) := if_neg (fun h => hp0 (lst_inj ((size_zero pa).1 h)))
            go_wp2
            go_meet
            exact ⟨by rw [Hp.out], rfl⟩
        case rest =>
          obtain ⟨rfl, rfl⟩ := hcut
          generalize hpath : askPath pa = path at *
          generalize hhttps : isHttps sc = https at *
          have HPA := Lib.hid hpath
          have HHT := Lib.hid hhttps
          clear hpath hhttps hpe hq u0 u2 u1' hu hlook
          obtain ⟨w2, hrun0, hRg, hb2, hs2⟩ := hM.range (P := Tryz.prog) Tryz.underlying106
          have hR2 := hR.chg (Chg.of_new hb2 (fun _ => False)) (fun _ _ e => e)
          have hC2 := hC1.trans (Chg.of_new hb2 F) (fun _ _ e => e)
          have k0 := (hb2.cell (p := ⟨w.heap.size, 0, none⟩) (by simp; omega)).trans k0'
          have k1 := (hb2.cell (p := ⟨w.heap.size, 1, none⟩) (by simp; omega)).trans k1'
          have hbsw := hFw bs hF
          have hGw : ∀ x, G x → x < w.heap.size := fun x hx => hFw x (hG x hx).1
          have hjb := hGw jb hR.gj
          have hrw : w.heap.size + 1 ≤ wc.heap.size := by omega
          generalize hrr : wc.heap.size = r at *
          clear hrr
          go_wp2_with fail
          go_loopw [13, 14] (fun v13 v14 wr => AskRel w F G jb bm bs r pv J n key E (J key) now https host path wr v13 v14) (fun _ _ wr => World.rangeLeft wr bs r)
          case atStart => exact ⟨⟨false, _, M, [], _, rfl, rfl, hRg, part_start hEM, Gath.start hEM, World.ownsRow_nil _ _ _ _, hR2, hC2, k0, k1⟩⟩
          case round =>
            obtain ⟨md, left, Mc, L, sv, rfl, rfl, hRc, hEc, hGa, hown, hRw, hCh, z0, z1⟩ := hrel.ex
            clear hrel hrun0 hRg hR2 hC2 k0 k1 hEM hM
            rcases hRc.next (P := Tryz.prog) with ⟨hall, hrun⟩ | ⟨s, v, w3, hls, hMs, hrun, hent, hRc', hlt, hcr, hs3⟩
            · as_aux_lemma =>
              have hpe : part now (J key) left = purge now (J key) := part_end hall
              rw [hpe] at hEc
              have hLn := hGa.len HSOK
              have HALL := Lib.hid hall
              have hFm : F bm := (hG bm hRw.gb).1
              have jw1 : wr.cell? ⟨jb, 1, none⟩ = some (.map (some bm)) := by simpa using hRw.row.at 1 _ rfl
              have hGF : ∀ x, G x ∨ x = bs → F x := fun x hx => by rcases hx with hx | rfl; exact (hG x hx).1; exact hF
              have hMc := hRc.map
              clear hall hpe hRc z0 z1
              go_upto_if 101 with (fail)
              go_cut [] (fun wx => (∃ F', JarAt wx jb pv F' (updJ J key (purge now (J key))) n ∧ (∀ b, F' b → F b)) ∧ Chg F w wx ∧ wx.ownsRow (w.heap.size + 1) 109 16 sv L.length (L.flatMap (encE now)))
              case first =>
                cases md
                · have HEnd := Lib.hid (hRw.close_some HEk.out hne hMc hEc)
                  go_wp2
                  go_meet
                  exact ⟨⟨_, HEnd.out, hGF⟩, hCh, hown⟩
                · obtain ⟨nn, hlen, hnn⟩ := hMc.len (P := Tryz.prog) Tryz.underlying106
                  have Hnn := Lib.hid hnn
                  clear hnn
                  have hobm : ∀ k, sv.ownBlock = some k → k ≠ bm := fun k hk e => by have := (hown.lt k hk).1; have := hFw bm hFm; omega
                  by_cases hn0 : nn = 0
                  · have hall := (hEc.none_iff).1 (Hnn.out.1 hn0)
                    subst hn0
                    obtain ⟨w5, hrun5, hR5, hC5, hs5⟩ := hRw.drop_key (P := Tryz.prog) Tryz.underlying88 Tryz.underlying9 0
                    have HEnd := Lib.hid (hR5.close_none (upd_same E key none) hall)
                    have hC6 := hCh.trans hC5 (fun x _ e => e ▸ hFm)
                    have hown5 := own_chg hown hC5 hobm
                    clear hall Hnn hR5
                    go_wp2
                    go_meet
                    exact ⟨⟨_, HEnd.out, fun b hb => hGF b (Or.inl hb)⟩, hC6, hown5⟩
                  · have hn1 : ((nn : Int) == 0) = false := beq_eq_false_iff_ne.2 (by omega)
                    obtain ⟨w5, hrun5, hR5, hC5, hs5⟩ := hRw.store_key (P := Tryz.prog) Tryz.underlying88 Tryz.underlying9 (b := bs) hGn
                    have HEnd := Lib.hid (hR5.close_some (upd_same E key _) hne (hMc.chg hC5 hne) hEc)
                    have hC6 := hCh.trans hC5 (fun x _ e => e ▸ hFm)
                    have hown5 := own_chg hown hC5 hobm
                    clear Hnn hR5 hn0
                    go_wp2
                    go_meet
                    exact ⟨⟨_, HEnd.out, hGF⟩, hC6, hown5⟩
              case rest =>
                obtain ⟨⟨F', hJ9, hF9⟩, hC9, hown9⟩ := hcut
                have HSORT := sort_ents L now sv (w.heap.size + 1) wc hown9 (by omega)
                have hob := fun k hk => (hown9.lt k hk).1
                go_wp2_with fail
                refine HSORT.mono ?_
                rintro r5 w5 ⟨rfl, L', hperm, hpw, hC5, hrows⟩
                have hJ5 := hJ9.chg hC5 (fun b hb hk => by have := hFw b (hF9 b hb); have := hob b hk; omega)
                have hC6 := hC9.trans hC5 (fun i hi hk => by have := hob i hk; omega)
                have HSent := Lib.hid (hGa.sent HALL.out hperm hpw)
                have hao : ∃ ao cap, sv = .slice ao L'.length cap ∧ (0 < L'.length → ∃ g, ao = some ⟨g, 0, none⟩ ∧ g < w5.heap.size ∧ ∀ i e, L'[i]? = some e → RowAt w5 g (i * 16) (entCells e now)) := by
                  rcases hrows with ⟨g, cap, rfl, hg1, hg2, hrows⟩ | ⟨rfl, rfl⟩
                  · exact ⟨_, cap, rfl, fun _ => ⟨g, rfl, hg2, hrows⟩⟩
                  · exact ⟨none, 0, rfl, fun h => absurd h (by simp)⟩
                obtain ⟨ao, cap, rfl, hao⟩ := hao
                have HAO := Lib.hid hao
                have hLn' : L'.length ≤ 1000000 := by rw [hperm.length_eq]; omega
                have hsw := hC6.size
                clear hao hrows hC5 hpw hperm hJ9 hC9 hown9 HSORT hGa hEc hown hRw hCh hMc HALL jw1 hob
                obtain ⟨i1, hi1, hy0, hy1, hy2⟩ := info_parts Tryz.infoPCk
                go_wp2_with fail
                go_loopw [6, 120] (fun v6 v120 wr => ∃ (k : Nat) (PS : List Nat), k ≤ L'.length ∧ v120 = .int .i64 k ∧ PS.length = k ∧ wr.ownsRow w5.heap.size 79 1 v6 k (PS.map ptrV) ∧ Below w5.heap.size w5 wr ∧ Hid (PsOK wr w5.heap.size PS L')) (fun _ i _ => L'.length - (intOf i).toNat)
                case atStart => exact ⟨0, [], Nat.zero_le _, rfl, rfl, World.ownsRow_nil _ _ _ _, Below.refl _ _, fun j b e h => by simp at h⟩
                case round =>
                  obtain ⟨k, PS, hk, rfl, hPS, hown, hb, hps⟩ := hrel
                  by_cases hlt : k < L'.length
                  · have hpos : 0 < L'.length := by omega
                    obtain ⟨g, rfl, hg, hrows⟩ := HAO.out hpos
                    have hek : L'[k]? = some L'[k] := List.getElem?_eq_getElem hlt
                    have hrow := (hrows k _ hek).below hb hg
                    have HEK := Lib.hid hek
                    have HPS := Lib.hid hPS
                    clear hek hrows hPS
                    generalize L'[k] = e at *
                    have hsz := hb.size
                    go_wp2_with (first
                      | (refine load_ent_at rfl _ rfl g (k * 16) rfl e now hrow ?_; unfold entVal entCells)
                      | (at_builtin; refine wpList_append_own _ rfl _ _ 77 rfl w5.heap.size 79 i1 (.pointer none) 1 8 Tryz.underlying77 hi1 hy0 hy1 hy2 rfl (by decide) _ _ _ rfl (((hown.alloc _).alloc _).alloc _) ⟨wr.heap.size + 2, 0, none⟩ 1 1 [ptrV (wr.heap.size + 1)] rfl rfl ?e1 ?e2 ?e3 ?e4 ?e5 ?_))
                    case e1 =>
                      intro j u hu
                      match j, hu with
                      | 0, hu => cases hu; simp [go_sem, Addr.add, ptrV]
                      | j + 1, hu => simp at hu
                    case e2 => intro u hu; simp at hu; subst hu; rfl
                    case e3 => unfold maxLen; omega
                    case e4 => omega
                    case e5 => simp; omega
                    intro v' w9 hown9 hgrow _
                    have hps' := ps_step _ _ hown hgrow hsz HPS.out HEK.out hps.out
                    have hb9 : Below w5.heap.size w5 w9 := (((hb.alloc hsz _).alloc (by simp; omega) _).alloc (by simp; omega) _).grown hgrow (by simp; omega) (fun j hj => (hown.lt j hj).1)
                    have hO : w9.ownsRow w5.heap.size 79 1 v' (k + 1) ((PS ++ [wr.heap.size + 1]).map ptrV) := by rw [List.map_append]; exact hown9
                    have HP' := Lib.hid hps'
                    clear hown9 hgrow hown hps hps' hb
                    go_wp2
                    go_roundw
                    case rel => exact ⟨k + 1, PS ++ [wr.heap.size + 1], by omega, by go_num, by rw [List.length_append, HPS.out]; rfl, hO, hb9, HP'⟩
                    case measure => simp [intOf]; omega
                  · have hke : k = L'.length := by omega
                    subst hke
                    have hsz := hb.size
                    have HSP := Lib.hid (sentptr_of (B := w.heap.size) hown hPS hps.out hsw)
                    have hJ6 := hJ5.chg (Chg.of_new hb (fun _ => False)) (fun _ _ e => e)
                    have hC7 := hC6.trans (Chg.of_new hb F) (fun _ _ e => e)
                    clear hown hps hb hPS
                    go_wp2
                    go_returns
                    exact ⟨_, L', F', rfl, by rw [HPA.out, HHT.out]; exact HSent.out, HSP.out, hJ6, hC7, hF9⟩
            · as_aux_lemma =>
              have hSe : ∃ e la, J key s = some e ∧ v = entVal e la := by
                have hp := part_at (now := now) (S := J key) hls
                cases hS : J key s with
                | none => rw [hS] at hp; rw [(hEc s).1 hp] at hMs; cases hMs
                | some e => rw [hS] at hp; obtain ⟨la, hla⟩ := (hEc s).2 e hp; rw [hla] at hMs; exact ⟨e, la, rfl, (Option.some.inj hMs).symm⟩
              obtain ⟨e, la, hS, rfl⟩ := hSe
              have HS := Lib.hid hS
              have hfit := HSOK s e hS
              have hrne : w.heap.size ≠ r := by omega
              have hRw3 := hRw.chg hcr (fun x hx e => by have := hGw x hx; omega)
              have hC3 := hCh.trans hcr (fun x hx e => by omega)
              have hr3 : r < w3.heap.size := hRc'.lt.1
              have hown3 := own_chg hown hcr (fun k hk => (own_not_iter hown hRc k hk).1)
              have hob := fun k hk => (hown3.lt k hk).2
              have y0 := (hcr.cell (p := ⟨w.heap.size, 0, none⟩) (by simp; omega) hrne).trans z0
              have y1 := (hcr.cell (p := ⟨w.heap.size, 1, none⟩) (by simp; omega) hrne).trans z1
              have hMs' : Hid (Mc s = some (entVal e la)) := hMs
              clear hS hRc hRw hCh hown z0 z1 hcr hMs hs3
              unfold entVal entCells at hrun hent
              go_upto_region 18 with (fail)
              go_cut [15, 16] (fun v15 v16 wx => v15 = .string s ∧ v16 = .pointer (some ⟨w3.heap.size, 0, none⟩) ∧ RowAt wx w3.heap.size 0 (entCells e la) ∧ Loose wx w3.heap.size ∧ Below w3.heap.size w3 wx ∧ w3.heap.size < wx.heap.size)
              case first =>
                go_wp2
                go_meet
                exact ⟨rfl, rfl, RowAt.new w3 (entCells e la) 109, fun i => by simp [go_sem], (Below.refl _ _).alloc (Nat.le_refl _) _, by simp⟩
              case rest =>
                obtain ⟨rfl, rfl, hre, hle, hb4, hlt4⟩ := hcut
                generalize heb : w3.heap.size = eb at *
                have hRw4 := hRw3.chg (Chg.of_new (by rw [heb]; exact hb4) (fun _ => False)) (fun _ _ e => e)
                have hC4 := hC3.trans (Chg.of_new (by rw [heb]; exact hb4) F) (fun _ _ e => e)
                have hown4 := own_chg hown3 (Chg.of_new (by rw [heb]; exact hb4) (fun _ => False)) (fun _ _ e => e)
                have hRg4 := hRc'.chg (Chg.of_new (by rw [heb]; exact hb4) (fun _ => False)) (fun e => e) (fun e => e)
                have x0 := (hb4.cell (p := ⟨w.heap.size, 0, none⟩) (by simp; omega)).trans y0
                have x1 := (hb4.cell (p := ⟨w.heap.size, 1, none⟩) (by simp; omega)).trans y1
                have hlt5 : World.rangeLeft wc bs r < World.rangeLeft wr bs r := by rw [hRg4.2]; exact hlt
                have hRg5 := hRg4.1
                have hebr : eb ≠ r := by omega
                have hebb : eb ≠ bs := by omega
                clear hRw3 hC3 hown3 hRc' y0 y1 hlt hRg4 hb4 hrun hent
                have c7 : wc.cell? ⟨eb, 7, none⟩ = some (.bool e.persistent) := by simpa using hre.at 7 _ rfl
                have c9 : wc.cell? ⟨eb, 9, none⟩ = some (.int .i64 e.exp) := by simpa using hre.at 9 _ rfl
                have c10 : wc.cell? ⟨eb, 10, none⟩ = some (.int .i64 0) := by simpa using hre.at 10 _ rfl
                have HTA := fun W => tAfter_any e.exp now W
                unfold tv at HTA
                go_upto_region 19 with (fail)
                go_cut [84] (fun v84 wx => v84 = .bool (!aliveE now e) ∧ Below wc.heap.size wc wx)
                case first =>
                  obtain ⟨p, hp⟩ : ∃ p, e.persistent = p := ⟨_, rfl⟩
                  rw [hp] at c7
                  have HA : Hid (aliveE now e = (!p || decide (now < e.exp))) := by show _ = _; unfold aliveE; rw [hp]
                  clear hp
                  cases p
                  · go_wp2
                    go_meet
                    exact ⟨by rw [HA.out]; rfl, Below.refl _ _⟩
                  · go_wp2_with fail
                    refine (HTA _).mono ?_
                    rintro r6 w6 ⟨rfl, hb6⟩
                    go_wp2
                    go_meet
                    exact ⟨by rw [HA.out]; simp, hb6⟩
                case rest =>
                  obtain ⟨rfl, hb5⟩ := hcut
                  have hre5 := hre.below hb5 hlt4
                  have hle5 := hle.below hb5 hlt4
                  have hs5 := hb5.size
                  have hRw5 := hRw4.chg (Chg.of_new hb5 (fun _ => False)) (fun _ _ e => e)
                  have hC5 := hC4.trans (Chg.of_new hb5 F) (fun _ _ e => e)
                  have hown5 := own_chg hown4 (Chg.of_new hb5 (fun _ => False)) (fun _ _ e => e)
                  have hRg6 := hRg5.chg (Chg.of_new hb5 (fun _ => False)) (fun e => e) (fun e => e)
                  have t0 := (hb5.cell (p := ⟨w.heap.size, 0, none⟩) (by simp; omega)).trans x0
                  have t1 := (hb5.cell (p := ⟨w.heap.size, 1, none⟩) (by simp; omega)).trans x1
                  have hlt6 : World.rangeLeft wc bs r < World.rangeLeft wr bs r := by rw [hRg6.2]; exact hlt5
                  have hRg7 := hRg6.1
                  have hlt7 : eb < wc.heap.size := by omega
                  clear hre hle hRw4 hC4 hown4 hRg5 x0 x1 hlt5 hRg6 hlt4 hs5 c7 c9 c10 HTA
                  obtain ⟨al, hal⟩ : ∃ al, aliveE now e = al := ⟨_, rfl⟩
                  rw [hal]
                  have HAL := Lib.hid hal
                  clear hal
                  cases al
                  · have hneg : (fun x => left x && decide (x ≠ s)) s = false := by simp
                    obtain ⟨w7, hdel, hRg8, hlt8, hC8, hs8⟩ := hRg7.drop (P := Tryz.prog) Tryz.underlying106 Tryz.underlying9 s hneg 0
                    have hRw8 := hRw5.chg hC8 (fun x hx e => hGn (e ▸ hx))
                    have hC9 := hC5.trans hC8 (fun x _ e => e ▸ hF)
                    have hown8 := own_chg hown5 hC8 (fun k hk => (own_not_iter hown5 hRg7 k hk).2)
                    have hwb : w.heap.size ≠ bs := by omega
                    have a0 := (hC8.cell (p := ⟨w.heap.size, 0, none⟩) (by simp; omega) hwb).trans t0
                    have a1 := (hC8.cell (p := ⟨w.heap.size, 1, none⟩) (by simp; omega) hwb).trans t1
                    have hE8 : EntMap (upd Mc s none) (part now (J key) (less left s)) := by rw [part_dead HS.out HAL.out]; exact hEc.del s
                    have hG8 := hGa.skip HS.out (by rw [HAL.out]; rfl)
                    clear hneg hRw5 hC5 hown5 hRg7 t0 t1 hEc hGa
                    go_wp2
                    go_roundw
                    case rel => exact ⟨⟨true, less left s, _, L, sv, rfl, rfl, hRg8, hE8, hG8, hown8, hRw8, hC9, a0, a1⟩⟩
                    case measure => omega
                  · have hpart : part now (J key) (less left s) = part now (J key) left := by rw [part_live HS.out HAL.out]; exact updS_self ((part_at hls).trans HS.out)
                    have HPart := Lib.hid hpart
                    have HSS := fun W hR hb => shouldSend_any e la eb 0 https host path W hR hb hfit.1 hfit.2.1 (by omega) (by omega)
                    clear hpart
                    go_upto_region 22 with (fail)
                    go_cut [91] (fun v91 wx => v91 = .bool (!sendB e https host path) ∧ Below wc.heap.size wc wx)
                    case first =>
                      go_wp2_with fail
                      refine (HSS _ hre5 hlt7).mono ?_
                      rintro r6 w6 ⟨rfl, hb6⟩
                      go_wp2
                      go_meet
                      exact ⟨rfl, hb6⟩
                    case rest =>
                      obtain ⟨rfl, hb6⟩ := hcut
                      have hre6 := hre5.below hb6 hlt7
                      have hle6 := hle5.below hb6 hlt7
                      have hs6 := hb6.size
                      have hRw6 := hRw5.chg (Chg.of_new hb6 (fun _ => False)) (fun _ _ e => e)
                      have hC6 := hC5.trans (Chg.of_new hb6 F) (fun _ _ e => e)
                      have hown6 := own_chg hown5 (Chg.of_new hb6 (fun _ => False)) (fun _ _ e => e)
                      have hRg8 := hRg7.chg (Chg.of_new hb6 (fun _ => False)) (fun e => e) (fun e => e)
                      have a0 := (hb6.cell (p := ⟨w.heap.size, 0, none⟩) (by simp; omega)).trans t0
                      have a1 := (hb6.cell (p := ⟨w.heap.size, 1, none⟩) (by simp; omega)).trans t1
                      have hlt8 : World.rangeLeft wc bs r < World.rangeLeft wr bs r := by rw [hRg8.2]; exact hlt6
                      have hRg9 := hRg8.1
                      have hlt9 : eb < wc.heap.size := by omega
                      clear hre5 hle5 hRw5 hC5 hown5 hRg7 t0 t1 hlt6 hRg8 HSS hlt7 hs6
                      obtain ⟨sd, hsd⟩ : ∃ sd, sendB e https host path = sd := ⟨_, rfl⟩
                      rw [hsd]
                      have HSD := Lib.hid hsd
                      clear hsd
                      cases sd
                      · have hE8 : EntMap Mc (part now (J key) (less left s)) := by rw [HPart.out]; exact hEc
                        have hG8 := hGa.skip HS.out (by rw [HAL.out, HSD.out]; rfl)
                        clear hEc hGa
                        go_wp2
                        go_roundw
                        case rel => exact ⟨⟨md, less left s, _, L, sv, rfl, rfl, hRg9, hE8, hG8, hown6, hRw6, hC6, a0, a1⟩⟩
                        case measure => omega
                      · as_aux_lemma =>
                        have q13 := hle6 13
                        have q14 := hle6 14
                        have r13 : wc.cell? ⟨eb, 13, none⟩ = some (.int .i64 la) := by simpa using hre6.at 13 _ rfl
                        have r14 : wc.cell? ⟨eb, 14, none⟩ = some (.int .i64 0) := by simpa using hre6.at 14 _ rfl
                        go_upto_region 23 with (fail)
                        go_cut [] (fun wx => RowAt wx eb 0 (entCells e now) ∧ Chg (· = eb) wc wx)
                        case first =>
                          go_wp2
                          go_meet
                          exact ⟨(hre6.set 13 (.int .i64 now)).set 14 (.int .i64 0), (((Chg.refl (fun b => b = eb) wc).setCell (p := ⟨eb, 13, none⟩) (Or.inl rfl) _).setCell (p := ⟨eb, 14, none⟩) (Or.inl rfl) _)⟩
                        case rest =>
                          obtain ⟨hre7, hE7⟩ := hcut
                          have hes7 := hE7.size
                          have hRg10 := hRg9.chg hE7 hebb.symm hebr.symm
                          have hsome : (Mc s).isSome = true := by rw [hMs'.out]; rfl
                          obtain ⟨w8, hst, hRg11, hlt11, hC8, hs8⟩ := hRg10.1.store (P := Tryz.prog) Tryz.underlying106 Tryz.underlying9 s hsome (entVal e now)
                          have hlt12 : World.rangeLeft w8 bs r < World.rangeLeft wr bs r := by rw [hlt11, hRg10.2]; exact hlt8
                          have hown7 := own_chg hown6 hE7 (fun k hk e' => by have := hob k hk; omega)
                          have hown8 := own_chg hown7 hC8 (fun k hk => (own_not_iter hown7 hRg10.1 k hk).2)
                          have hRw8 := (hRw6.chg hE7 (fun x hx e' => by have := hGw x hx; omega)).chg hC8 (fun x hx e' => hGn (e' ▸ hx))
                          have hC9 := (hC6.trans hE7 (fun x hx e' => by omega)).trans hC8 (fun x _ e' => e' ▸ hF)
                          have hre8 := hre7.chg hC8 (by omega) hebb
                          have hwb : w.heap.size ≠ bs := by omega
                          have hwe : w.heap.size ≠ eb := by omega
                          have b0 := (hC8.cell (p := ⟨w.heap.size, 0, none⟩) (by simp; omega) hwb).trans ((hE7.cell (p := ⟨w.heap.size, 0, none⟩) (by simp; omega) hwe).trans a0)
                          have b1 := (hC8.cell (p := ⟨w.heap.size, 1, none⟩) (by simp; omega) hwb).trans ((hE7.cell (p := ⟨w.heap.size, 1, none⟩) (by simp; omega) hwe).trans a1)
                          have hE8 : EntMap (upd Mc s (some (entVal e now))) (part now (J key) (less left s)) := by rw [part_live HS.out HAL.out]; exact hEc.put s e now
                          have hG8 := hGa.take HSOK hls HS.out HAL.out HSD.out
                          have hLn := hGa.len HSOK
                          have hs9 : w.heap.size + 1 ≤ w8.heap.size := by omega
                          have hob8 := fun k hk => (hown8.lt k hk).1
                          have hnr := own_not_iter hown8 hRg11
                          have hr8 := hRg11.lt
                          clear hre6 hle6 hRw6 hC6 hown6 hRg9 a0 a1 hlt8 hEc hGa hE7 hRg10 hlt11 hown7 hC8 q13 q14 r13 r14 hMs' hsome hs8
                          obtain ⟨i0, hi, hz0, hz1, hz2⟩ := info_parts Tryz.infoEnt
                          go_wp2_with (first
                            | (refine load_ent rfl _ rfl eb rfl _ _ hre7 ?_)
                            | (refine load_ent rfl _ rfl eb rfl _ _ hre8 ?_)
                            | (refine build_ent rfl _ rfl e now rfl ?_)
                            | (at_builtin; refine wpList_append_own _ rfl _ _ 107 rfl (w.heap.size + 1) 109 i0 _ 16 136 Tryz.underlying107 hi hz0 hz1 hz2 ent_cells (by decide) _ _ _ rfl (hown8.alloc _) ⟨w8.heap.size, 0, none⟩ 1 1 (entCells e now) rfl rfl ?d1 ?d2 ?d3 ?d4 ?d5 ?_))
                          case d1 => exact row_new_at w8 (entCells e now) 109
                          case d2 => exact encE_one now e
                          case d3 => unfold maxLen; omega
                          case d4 => omega
                          case d5 => simp; omega
                          intro v' w9 hown9 hgrow _
                          have hC10 := Chg.of_grown hgrow
                          have hal8 := (Below.refl w8.heap.size w8).alloc (Nat.le_refl _) (.cells (entCells e now).toArray 109)
                          have hC11 := (hC9.trans (Chg.of_new hal8 F) (fun _ _ e' => e')).trans hC10 (fun i hi hk => by have := hob8 i hk; omega)
                          have hRw9 := (hRw8.chg (Chg.of_new hal8 (fun _ => False)) (fun _ _ e' => e')).chg hC10 (fun x hx hk => by have := hob8 x hk; have := hGw x hx; omega)
                          have hRg12 := (hRg11.chg (Chg.of_new hal8 (fun _ => False)) (fun e' => e') (fun e' => e'))
                          have hRg13 := hRg12.1.chg hC10 (fun hk => (hnr _ hk).2 rfl) (fun hk => (hnr _ hk).1 rfl)
                          have b0' := (hgrow.cell (a := ⟨w.heap.size, 0, none⟩) ((hal8.cell (p := ⟨w.heap.size, 0, none⟩) (by simp; omega)).trans b0) (fun hk => by have h9 : w.heap.size + 1 ≤ w.heap.size := hob8 _ hk.symm; omega))
                          have b1' := (hgrow.cell (a := ⟨w.heap.size, 1, none⟩) ((hal8.cell (p := ⟨w.heap.size, 1, none⟩) (by simp; omega)).trans b1) (fun hk => by have h9 : w.heap.size + 1 ≤ w.heap.size := hob8 _ hk.symm; omega))
                          have hlt13 : World.rangeLeft w9 bs r < World.rangeLeft wr bs r := by rw [hRg13.2, hRg12.2]; exact hlt12
                          have hO : w9.ownsRow (w.heap.size + 1) 109 16 v' (L ++ [e]).length ((L ++ [e]).flatMap (encE now)) := by rw [flat_snoc, List.length_append]; exact hown9
                          have hRg14 := hRg13.1
                          clear hown9 hgrow hC10 hal8 hC9 hRw8 hRg11 hRg12 hRg13 b0 b1 hre7 hre8 hown8 hlt12 hst
                          go_wp2
                          go_roundw
                          case rel => exact ⟨⟨true, less left s, _, L ++ [e], v', rfl, rfl, hRg14, hE8, hG8, hO, hRw9, hC11, b0', b1'⟩⟩
                          case measure => omega
end Go.Proofs.YtcofblepdfjhjaaGreatDoor

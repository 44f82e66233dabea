/- Walks: last, set, ask, web. Steps in memory that a law itself lays. Walks: alive. What the reference's test of steps says of a run's arguments. -/
import Derived.Test.YtcofblepdfjhjaaGreatDoorW27
import Derived.Test.YtcofblepdfjhjaaGreatDoorW12
import Derived.Test.YtcofblepdfjhjaaGreatDoorLawsB
namespace Go.Proofs.YtcofblepdfjhjaaGreatDoor
open Go.RowKit
/-- What is asked of a run's arguments. -/
structure RunArgs (w : World) (sufs : List ByteArray) (ss : List PStep) (v vs : Value) : Prop where
  sf : StrsAt w w.heap.size v sufs
  st : StepsAt w w.heap.size vs ss
  sl : sufs.length ≤ 2147483647 ∧ ∀ x ∈ sufs, x.size ≤ 2147483647
  ok : ∀ s ∈ ss, StepOK s
  len : ss.length ≤ 64
  ck : ∀ s ∈ ss, s.cookies.length ≤ 64
/-- The list's memory of errors, and that there is some memory. -/
def Base (w : World) : Prop := 0 < w.heap.size ∧ ∃ te pe, w.cell? ⟨0, 0, none⟩ = some (.iface te pe)
theorem Base.below {w w' : World} (h : Base w) (hb : Below w.heap.size w w') : Base w' := by
  obtain ⟨h1, te, pe, h2⟩ := h
  exact ⟨Nat.lt_of_lt_of_le h1 hb.size, te, pe, (hb.cell (p := ⟨0, 0, none⟩) h1).trans h2⟩
theorem RunRel.len {psl : Option (List ByteArray)} {J : ByteArray → ByteArray → Option Ent} {n : Nat} {ss : List PStep} {o : List (List Ent)} (h : RunRel psl J n ss o) : o.length ≤ ss.length := by
  induction h with
  | nil J n => exact Nat.le_refl _
  | set _ _ ih => rw [List.length_cons]; omega
  | ask _ _ _ ih => rw [List.length_cons, List.length_cons]; omega
def LastPost (psl : Option (List ByteArray)) (ss : List PStep) (w : World) (r : Ending) (w' : World) : Prop :=
  ∃ u o, r = .returned u ∧ RunRel psl noJar 0 ss o ∧ PairsAt w' (fun b => w.heap.size ≤ b) u ((pairsOf o).getLastD []) ∧ Below w.heap.size w w'
theorem Run_args {listed : Bool} {v vs : Value} {sufs : List ByteArray} {ss : List PStep} {w : World} (h : RunArgs w sufs ss v vs) (hb : Base w) : Calls Tryz.prog 25 #[.bool listed, v, vs] w (RunPost (pslOf listed sufs) ss w) := by
  obtain ⟨h1, te, pe, h2⟩ := hb
  exact Run_any listed v vs _ sufs ss w.heap.size te pe w h.sf h.st (Nat.le_refl _) h1 rfl h2 h.sl h.ok h.len h.ck
set_option maxRecDepth 100000 in
set_option maxHeartbeats 1600000 in
theorem last_any (listed : Bool) (v vs : Value) (sufs : List ByteArray) (ss : List PStep) (w : World) (h : RunArgs w sufs ss v vs) (hb : Base w) : Calls Tryz.prog 12 #[.bool listed, v, vs] w (LastPost (pslOf listed sufs) ss w) := by
  have HR := Run_args (listed := listed) h hb
  obtain ⟨ao, b, off, cap, rfl, _⟩ := h.sf.ex
  obtain ⟨cv, hs, _⟩ := h.st.ex
  obtain ⟨ta, tb, toff, tcap, rfl, _⟩ := hs.ex
  have hl := h.len
  clear hs h
  generalize pslOf listed sufs = psl at *
  go_enter Tryz.func12, Tryz.ntmps12
  go_wp2_with fail
  refine HR.mono ?_
  rintro r w1 ⟨u, o, rfl, hrel, hout, hb1⟩
  obtain ⟨oa, ob, ooff, ocap, rfl, ho1, ho2⟩ := hout
  have HO1 := Lib.hid ho1
  have HO2 := Lib.hid ho2
  clear ho1 ho2 HR
  by_cases h0 : (pairsOf o).length = 0
  · have h0' : (((pairsOf o).length : Int) == 0) = true := by simp [h0]
    have hn : pairsOf o = [] := List.length_eq_zero_iff.1 h0
    have Hn := Lib.hid hn
    clear h0 hn
    go_wp2
    go_returns
    refine ⟨_, o, rfl, hrel, ?_, hb1⟩
    rw [Hn.out]
    exact ⟨none, 0, 0, 0, rfl, fun h => absurd h (by simp), fun j p h => by cases j <;> cases h⟩
  · have h0' : (((pairsOf o).length : Int) == 0) = false := beq_eq_false_iff_ne.2 (by omega)
    obtain ⟨rfl, ho3, ho4⟩ := HO1.out (by omega)
    have hlast : (pairsOf o)[(pairsOf o).length - 1]? = some ((pairsOf o).getLastD []) := by
      cases hp : pairsOf o with
      | nil => rw [hp] at h0; exact absurd rfl h0
      | cons x r => rw [List.getLastD_cons, ← List.getLast?_eq_getElem?, List.getLast?_cons]; simp
    obtain ⟨u, hu1, hu2⟩ := HO2.out _ _ hlast
    generalize hps : (pairsOf o).getLastD [] = ps at *
    have HP := Lib.hid hps
    clear hps
    generalize hL : (pairsOf o).length = L at *
    have hL64 : L ≤ 64 := by have := hrel.len; rw [← hL, pairsOf_len]; omega
    have e1 : IntKind.i64.wrap ((L : Int) - 1) = ((L - 1 : Nat) : Int) := by rw [IntWalk.i64_in _ (by omega)]; omega
    have HU := Lib.hid hu2
    clear hu2 hlast hL HO1 HO2
    go_wp2
    go_returns
    exact ⟨u, o, rfl, hrel, by rw [HP.out]; exact HU.out, hb1⟩
/-- A step of one cookie, as a value; a step that asks. -/
def setVal (t : Int) (sc ho pa : ByteArray) (b : Nat) : Value := .agg #[.bool true, .int .i64 t, .string sc, .string ho, .string pa, .slice (some ⟨b, 0, none⟩) 1 1]
def askVal (t : Int) (sc ho pa : ByteArray) : Value := .agg #[.bool false, .int .i64 t, .string sc, .string ho, .string pa, .slice none 0 0]
def SetRes (t : Int) (sc ho pa : ByteArray) (c : PCookie) (w : World) (r : Ending) (w' : World) : Prop := ∃ b, r = .returned (setVal t sc ho pa b) ∧ w.heap.size ≤ b ∧ b < w'.heap.size ∧ RowAt w' b 0 (ckCells c) ∧ Below w.heap.size w w'
set_option maxRecDepth 100000 in
set_option maxHeartbeats 1600000 in
theorem ask_any (t : Int) (sc ho pa : ByteArray) (w : World) : Calls Tryz.prog 8 #[.int .i64 t, .agg #[.string sc, .string ho, .string pa]] w fun r w' => r = .returned (askVal t sc ho pa) ∧ Below w.heap.size w w' := by
  go_enter Tryz.func8, Tryz.ntmps8
  go_wp2
  go_returns
  exact ⟨rfl, two_alloc _ _ _⟩
set_option maxRecDepth 100000 in
set_option maxHeartbeats 1600000 in
theorem set_any (t : Int) (sc ho pa : ByteArray) (c : PCookie) (w : World) : Calls Tryz.prog 30 #[.int .i64 t, .agg #[.string sc, .string ho, .string pa], .agg (ckCells c).toArray] w (SetRes t sc ho pa c w) := by
  have hnew : ∀ W : World, RowAt (W.alloc (.cells (ckCells c).toArray 47)) W.heap.size 0 (ckCells c) := fun W => RowAt.new W _ _
  have HN := Lib.hid hnew
  clear hnew
  unfold ckCells
  go_enter Tryz.func30, Tryz.ntmps30
  go_wp2
  go_returns
  refine ⟨w.heap.size + 1 + 1 + 1, rfl, by omega, by simp, ?_, ?_⟩
  · have := HN.out (((w.alloc (.cells #[.string sc, .string ho, .string pa] 25)).alloc (.cells (ckCells c).toArray 47)).alloc (.cells #[.bool true, .int .i64 t, .string sc, .string ho, .string pa, .slice (some ⟨w.heap.size + 1 + 1 + 1, 0, none⟩) 1 1] 32))
    simp only [World.size_alloc] at this
    exact this
  · exact (((((Below.refl _ _).alloc (Nat.le_refl _) _).alloc (by simp) _).alloc (by simp; omega) _).alloc (by simp; omega) _)
end Go.Proofs.YtcofblepdfjhjaaGreatDoor
namespace Go.Proofs.YtcofblepdfjhjaaGreatDoor
open Go.RowKit
theorem row3 {w : World} {b o : Nat} {u0 u1 u2 : Value} (h : RowAt w b o [u0, u1, u2]) : w.cell? ⟨b, o, none⟩ = some u0 ∧ w.cell? ⟨b, o + 1, none⟩ = some u1 ∧ w.cell? ⟨b, o + 2, none⟩ = some u2 := ⟨h 0 _ rfl, h 1 _ rfl, h 2 _ rfl⟩
/-- A row behind a call: W is w, perhaps with draws. -/
theorem row_step {w W w' : World} {b : Nat} {us : List Value} (h : RowAt w b 0 us ∧ b < w.heap.size) (hb : Below W.heap.size W w') (e : W.heap = w.heap) : RowAt w' b 0 us ∧ b < w'.heap.size := by
  have hl : b < W.heap.size := by rw [e]; exact h.2
  refine ⟨?_, Nat.lt_of_lt_of_le hl hb.size⟩
  refine RowAt.below (w := W) (fun i u hu => ?_) hb hl
  have := h.1 i u hu
  unfold World.cell? at this ⊢
  rw [e]; exact this
theorem below_step {a w W w' : World} (h : Below a.heap.size a w) (hb : Below W.heap.size W w') (e1 : W.os = w.os) (e2 : W.tape = w.tape) (e3 : W.output = w.output) (e4 : W.heap = w.heap) : Below a.heap.size a w' := by
  obtain ⟨h1, h2, h3, h4, h5⟩ := h
  obtain ⟨g1, g2, g3, g4, g5⟩ := hb
  rw [e4] at g4 g5
  exact ⟨g1.trans (e1.trans h1), g2.trans (e2.trans h2), g3.trans (e3.trans h3), by omega, fun k hk => (g5 k (by omega)).trans (h5 k hk)⟩
theorem flat6_get (f : PStep × Value → List Value) (hf : ∀ p, (f p).length = 6) : ∀ (L : List (PStep × Value)) (i c : Nat) (p : PStep × Value), c < 6 → L[i]? = some p → (L.flatMap f)[i * 6 + c]? = (f p)[c]?
  | [], i, c, p, _, h => by simp at h
  | x :: r, 0, c, p, hc, h => by
    simp at h; subst h
    rw [List.flatMap_cons, Nat.zero_mul, Nat.zero_add, List.getElem?_append_left (by rw [hf]; exact hc)]
  | x :: r, i + 1, c, p, hc, h => by
    rw [List.flatMap_cons, List.getElem?_append_right (by rw [hf]; omega), hf]
    have e : (i + 1) * 6 + c - 6 = i * 6 + c := by omega
    rw [e]
    exact flat6_get f hf r i c p hc (by simpa using h)
/-- Steps laid into a block of their own. -/
theorem steps_new (X : World) (T : TypeId) (L : List (PStep × Value)) (hc : ∀ p ∈ L, CookiesAt X X.heap.size p.2 p.1.cookies) :
    StepsAt (X.alloc (.cells (L.flatMap fun p => stCells p.1 p.2).toArray T)) (X.alloc (.cells (L.flatMap fun p => stCells p.1 p.2).toArray T)).heap.size (.slice (some ⟨X.heap.size, 0, none⟩) L.length L.length) (L.map (·.1)) := by
  have hal : Below X.heap.size X (X.alloc (.cells (L.flatMap fun p => stCells p.1 p.2).toArray T)) := (Below.refl _ _).alloc (Nat.le_refl _) _
  have hrow := RowAt.new X (L.flatMap fun p => stCells p.1 p.2) T
  have hsz : X.heap.size < (X.alloc (.cells (L.flatMap fun p => stCells p.1 p.2).toArray T)).heap.size := by simp
  generalize X.alloc (.cells (L.flatMap fun p => stCells p.1 p.2).toArray T) = W at *
  refine ⟨⟨fun j => ((L[j]?).map (·.2)).getD (.slice none 0 0), ⟨⟨_, X.heap.size, 0, L.length, by rw [List.length_map], fun _ => ⟨rfl, hsz⟩, fun j hj => ?_⟩⟩, fun j s hs => ?_⟩⟩
  · rw [List.length_map] at hj
    have hp : L[j]? = some L[j] := List.getElem?_eq_getElem hj
    generalize L[j] = p at hp
    have hcv : (((L[j]?).map (·.2)).getD (.slice none 0 0) : Value) = p.2 := by rw [hp]; rfl
    have hss : (L.map (·.1))[j]? = some p.1 := by rw [List.getElem?_map, hp]; rfl
    rw [hss]
    show RowAt W X.heap.size (0 + j * 6) (stCells p.1 (((L[j]?).map (·.2)).getD (.slice none 0 0)))
    rw [hcv]
    intro c u hu
    have hc6 : c < 6 := by have := (List.getElem?_eq_some_iff.1 hu).1; simpa [stCells] using this
    have := flat6_get (fun p => stCells p.1 p.2) (fun _ => rfl) L j c p hc6 hp
    rw [hu] at this
    have h2 := hrow _ u this
    rw [Nat.zero_add] at h2 ⊢
    exact h2
  · rw [List.getElem?_map] at hs
    cases hp : L[j]? with
    | none => rw [hp] at hs; cases hs
    | some p =>
      rw [hp] at hs
      have e : p.1 = s := Option.some.inj hs
      have hcv : (((L[j]?).map (·.2)).getD (.slice none 0 0) : Value) = p.2 := by rw [hp]; rfl
      show CookiesAt W W.heap.size (((L[j]?).map (·.2)).getD (.slice none 0 0)) s.cookies
      rw [hcv, ← e]
      have h := (hc p (List.mem_of_getElem? hp)).below hal (Nat.le_refl _)
      obtain ⟨ao, b, off, cap, h1, h2, h3⟩ := h.ex
      exact ⟨⟨ao, b, off, cap, h1, fun hl => ⟨(h2 hl).1, by have := (h2 hl).2; omega⟩, h3⟩⟩
theorem cookies_one {w : World} {b : Nat} {c : PCookie} (h : RowAt w b 0 (ckCells c) ∧ b < w.heap.size) : CookiesAt w w.heap.size (.slice (some ⟨b, 0, none⟩) 1 1) [c] :=
  ⟨⟨_, b, 0, 1, rfl, fun _ => ⟨rfl, h.2⟩, fun j hj => by
    have hj0 : j = 0 := by simp at hj; omega
    subst hj0
    simpa using h.1⟩⟩
theorem cookies_nil (w : World) (B : Nat) : CookiesAt w B (.slice none 0 0) [] := ⟨⟨none, 0, 0, 0, rfl, fun h => absurd h (by simp), fun j hj => absurd hj (by simp)⟩⟩
theorem SliceAt.heap {W V : World} {B n sz : Nat} {v : Value} {cells : Nat → List Value} (h : SliceAt W B v n sz cells) (e : V.heap = W.heap) : SliceAt V B v n sz cells := by
  obtain ⟨ao, b, off, cap, h1, h2, h3⟩ := h.ex
  refine ⟨⟨ao, b, off, cap, h1, h2, fun j hj i u hu => ?_⟩⟩
  have := h3 j hj i u hu
  unfold World.cell? at this ⊢
  rw [e]; exact this
theorem StepsAt.heap {W V : World} {B : Nat} {v : Value} {ss : List PStep} (h : StepsAt W B v ss) (e : V.heap = W.heap) : StepsAt V B v ss := by
  obtain ⟨cv, h1, h2⟩ := h.ex
  exact ⟨⟨cv, h1.heap e, fun j s hs => SliceAt.heap (h2 j s hs) e⟩⟩
theorem SliceAt.up {W : World} {B B' n sz : Nat} {v : Value} {cells : Nat → List Value} (h : SliceAt W B v n sz cells) (hB : B ≤ B') : SliceAt W B' v n sz cells := by
  obtain ⟨ao, b, off, cap, h1, h2, h3⟩ := h.ex
  exact ⟨⟨ao, b, off, cap, h1, fun hn => ⟨(h2 hn).1, Nat.lt_of_lt_of_le (h2 hn).2 hB⟩, h3⟩⟩
theorem StepsAt.up {W : World} {B B' : Nat} {v : Value} {ss : List PStep} (h : StepsAt W B v ss) (hB : B ≤ B') : StepsAt W B' v ss := by
  obtain ⟨cv, h1, h2⟩ := h.ex
  exact ⟨⟨cv, h1.up hB, fun j s hs => SliceAt.up (h2 j s hs) hB⟩⟩
theorem args_heap {W V : World} {sufs : List ByteArray} {ss : List PStep} {v vs : Value} (h : RunArgs W sufs ss v vs) (e : V.heap = W.heap) : RunArgs V sufs ss v vs := by
  obtain ⟨cv, h1, h2⟩ := h.st.ex
  refine ⟨?_, ?_, h.sl, h.ok, h.len, h.ck⟩
  · rw [e]; exact SliceAt.heap h.sf e
  · rw [e]; exact ⟨⟨cv, h1.heap e, fun j s hs => SliceAt.heap (h2 j s hs) e⟩⟩
theorem base_heap {W V : World} (h : Base W) (e : V.heap = W.heap) : Base V := by
  obtain ⟨h1, te, pe, h2⟩ := h
  refine ⟨by rw [e]; exact h1, te, pe, ?_⟩
  unfold World.cell? at h2 ⊢
  rw [e]; exact h2
theorem Base.alloc {w : World} (h : Base w) (o : Obj) : Base (w.alloc o) := h.below ((Below.refl _ _).alloc (Nat.le_refl _) o)
theorem PairsAt.to {w : World} {Q Q' : Nat → Prop} {v : Value} {ps : List (ByteArray × ByteArray)} (h : PairsAt w Q v ps) (hQ : ∀ b, b < w.heap.size → Q b → Q' b) : PairsAt w Q' v ps := h.chg (Chg.refl (fun _ => False) w) (fun _ _ _ e => e) hQ
end Go.Proofs.YtcofblepdfjhjaaGreatDoor
namespace Go.Proofs.YtcofblepdfjhjaaGreatDoor
open Go.RowKit
def aliveHost : ByteArray := ⟨#[119, 119, 119, 46, 101, 120, 97, 109, 112, 108, 101, 46, 111, 114, 103]⟩
def slashB : ByteArray := ⟨#[47]⟩
def aliveCk : PCookie := ⟨⟨#[110]⟩, ⟨#[118]⟩, ⟨#[]⟩, ⟨#[]⟩, 0, 0, false⟩
def aliveSet : PStep := ⟨true, 1, httpB, aliveHost, slashB, [aliveCk]⟩
def aliveAsk : PStep := ⟨false, 2, httpB, aliveHost, slashB, []⟩
theorem alive_ok : ∀ s ∈ [aliveSet, aliveAsk], StepOK s := by
  have h1 : isHostB (splitB (lst aliveHost)).1 = true := by decide +kernel
  have h2 : portOK (splitB (lst aliveHost)).2 = true := by decide +kernel
  have hh := split_hostPort h1 h2
  intro s hs
  simp only [List.mem_cons, List.not_mem_nil, or_false] at hs
  rcases hs with rfl | rfl
  · refine ⟨hh, by decide, by decide, by decide, by decide, fun c hc => ?_⟩
    simp only [aliveSet, List.mem_singleton] at hc
    subst hc
    exact ⟨Or.inl rfl, by decide, by decide, by decide, by decide, by decide, by decide⟩
  · exact ⟨hh, by decide, by decide, by decide, by decide, fun c hc => by cases hc⟩
/-- The answer. -/
theorem alive_law {o : List (List Ent)} (h : RunRel none noJar 0 [aliveSet, aliveAsk] o) : (pairsOf o).getLastD [] = [(⟨#[110]⟩, ⟨#[118]⟩)] := by
  obtain ⟨L, rfl, hL⟩ := one_asked (t := 1) (sa := httpB) (ha := aliveHost) (pa := slashB) (u := 2) (sb := httpB) (hb := aliveHost) (pb := slashB) (c := aliveCk) web_http h
  rw [(setJ_one rfl web_http).1] at hL
  have e1 : hostOf ⟨true, 1, httpB, aliveHost, slashB, [aliveCk]⟩ = str (hostB (lst aliveHost)) := rfl
  rw [e1, updJ_at] at hL
  have hdt : domTy none (str (hostB (lst aliveHost))) aliveCk.domain = some (str (hostB (lst aliveHost)), true) := domTy_own _ _
  rcases set_first (psl := none) (host := str (hostB (lst aliveHost))) (defp := defOf ⟨true, 1, httpB, aliveHost, slashB, [aliveCk]⟩) (now := 1) (c := aliveCk) (n := 0) with hS | ⟨e, p, hp', _, hS, f1, f2, f3, f4, f5, f6, f7, f8, f9⟩
  · exfalso
    obtain ⟨e, h1, h2, _⟩ := newEnt_some (defp := defOf ⟨true, 1, httpB, aliveHost, slashB, [aliveCk]⟩) (now := 1) hdt
    rw [h1, decide_eq_false (by decide)] at hS
    have := hS (entId e)
    simp [setOne, updS] at this
  · have hS' : (setOne (PStep.tm ⟨true, 1, httpB, aliveHost, slashB, [aliveCk]⟩) (newEnt none (str (hostB (lst aliveHost))) (defOf ⟨true, 1, httpB, aliveHost, slashB, [aliveCk]⟩) (PStep.tm ⟨true, 1, httpB, aliveHost, slashB, [aliveCk]⟩) aliveCk) (noJar (keyOf none (str (hostB (lst aliveHost)))), 0)).1 = _ := hS
    rw [hS'] at hL
    rw [hdt] at hp'
    cases hp'
    have hsend : sendB e (isHttps httpB) (str (hostB (lst aliveHost))) (askPath slashB) = true := by
      unfold sendB
      rw [sec_not (by rw [f6]; rfl), pat_root (by rw [f4]; decide) (by decide), domMatch, f1]
      simp
    have hal : aliveE 2 e = true := by
      unfold aliveE
      rw [f7, decide_eq_false (by decide)]; rfl
    rw [hL.only, hsend, hal]
    simp [pairsOf, pairOf, f3, f5, aliveCk]
theorem alive_args {X : World} {b1 : Nat} (R1 : RowAt X b1 0 (ckCells aliveCk) ∧ b1 < X.heap.size) :
    RunArgs (X.alloc (.cells (stCells aliveSet (.slice (some ⟨b1, 0, none⟩) 1 1) ++ stCells aliveAsk (.slice none 0 0)).toArray 32)) [] [aliveSet, aliveAsk] (.slice none 0 0) (.slice (some ⟨X.heap.size, 0, none⟩) 2 2) := by
  refine ⟨⟨⟨none, 0, 0, 0, rfl, fun h => absurd h (by simp), fun j hj => absurd hj (by simp)⟩⟩, ?_, ⟨by simp, fun x hx => by cases hx⟩, alive_ok, by simp, fun s hs => ?_⟩
  · exact steps_new X 32 [(aliveSet, .slice (some ⟨b1, 0, none⟩) 1 1), (aliveAsk, .slice none 0 0)] (fun p hp => by
      simp only [List.mem_cons, List.not_mem_nil, or_false] at hp
      rcases hp with rfl | rfl
      · exact cookies_one R1
      · exact cookies_nil _ _)
  · simp only [List.mem_cons, List.not_mem_nil, or_false] at hs
    rcases hs with rfl | rfl <;> decide
set_option maxRecDepth 100000 in
set_option maxHeartbeats 6400000 in
theorem alive_any (w : World) (hB : Base w) : Calls Tryz.prog 14 #[] w fun r w' => r = .returned (.bool true) ∧ Below w.heap.size w w' := by
  have HSET := fun W => set_any 1 httpB aliveHost slashB aliveCk W
  have HASK := fun W => ask_any 2 httpB aliveHost slashB W
  have HLAST := fun W b h => last_any false (.slice none 0 0) (.slice (some ⟨b, 0, none⟩) 2 2) [] [aliveSet, aliveAsk] W h
  unfold SetRes setVal ckCells at HSET
  unfold askVal at HASK
  unfold httpB aliveHost slashB at HSET HASK
  go_enter Tryz.func14, Tryz.ntmps14
  go_upto_region 2 with (fail)
  have HA0 := RowAt.new w [.string httpB, .string aliveHost, .string slashB] 25
  have hBa := (Below.refl w.heap.size w).alloc (Nat.le_refl _) (.cells [Value.string httpB, .string aliveHost, .string slashB].toArray 25)
  have hsa : (w.alloc (.cells [Value.string httpB, .string aliveHost, .string slashB].toArray 25)).heap.size = w.heap.size + 1 := by simp
  go_cut [2] (fun v2 wx => ∃ u, u = v2 ∧ PairsAt wx (fun b => w.heap.size ≤ b) u [(⟨#[110]⟩, ⟨#[118]⟩)] ∧ Below w.heap.size w wx)
  case first =>
    have hW : ∃ W, W = w.alloc (.cells [Value.string httpB, .string aliveHost, .string slashB].toArray 25) := ⟨_, rfl⟩
    obtain ⟨W, hW⟩ := hW
    have hW' : w.alloc (.cells #[.string ⟨#[104, 116, 116, 112]⟩, .string ⟨#[119, 119, 119, 46, 101, 120, 97, 109, 112, 108, 101, 46, 111, 114, 103]⟩, .string ⟨#[47]⟩] 25) = W := hW.symm
    rw [← hW] at HA0 hBa hsa
    rw [hW']
    clear hW hW'
    have BB := Below.refl W.heap.size W
    have hlt : w.heap.size < W.heap.size := by omega
    unfold httpB aliveHost slashB at HA0
    obtain ⟨z0, z1, z2⟩ := row3 HA0
    go_region_held3 (fun w' => w'.cell? ⟨w.heap.size, 0, none⟩ = some (.string ⟨#[104, 116, 116, 112]⟩) ∧ w'.cell? ⟨w.heap.size, 1, none⟩ = some (.string ⟨#[119, 119, 119, 46, 101, 120, 97, 109, 112, 108, 101, 46, 111, 114, 103]⟩) ∧ w'.cell? ⟨w.heap.size, 2, none⟩ = some (.string ⟨#[47]⟩)) (go_keep)
      (first
        | (go_at_call 30; refine (HSET _).mono ?_; rintro r w2 ⟨b1, rfl, hb1, hb2, hb3, hb4⟩; have BB := below_step BB hb4 rfl rfl rfl rfl; obtain ⟨z0, z1, z2⟩ := row3 (HA0.below BB hlt); have R1 := And.intro hb3 hb2)
        | (go_at_call 8; refine (HASK _).mono ?_; rintro r w2 ⟨rfl, hb4⟩; have BB := below_step BB hb4 rfl rfl rfl rfl; obtain ⟨z0, z1, z2⟩ := row3 (HA0.below BB hlt); try have R1 := row_step R1 hb4 rfl)
        | (go_at_call 12; have BS := BB.size; refine (HLAST _ _ (args_heap (alive_args R1) (by rfl)) (base_heap ((hB.below (hBa.trans (BB.mono (by omega)))).alloc _) (by rfl))).mono ?_; rintro r w2 ⟨u, o, rfl, hrel, hp, hb4⟩; have BB := below_step (BB.alloc BB.size _) hb4 rfl rfl rfl rfl; obtain ⟨z0, z1, z2⟩ := row3 (HA0.below BB hlt)))
    all_goals
      have hw := alive_law hrel
      rw [hw] at hp
      have hq := hp.to (Q' := fun b => w.heap.size ≤ b) (fun b _ h => by simp at h; omega)
      have HQ := Lib.hid hq
      have hbf := hBa.trans (BB.mono (by omega))
      clear HSET HASK HLAST hp hq hw
      go_wp2
      go_meet
      exact ⟨u, rfl, HQ.out, hbf⟩
  case rest =>
    obtain ⟨u, rfl, hp, hb⟩ := hcut
    obtain ⟨ao, b, off, cap, rfl, h1, h2⟩ := hp
    obtain ⟨rfl, h3, h4⟩ := h1 (by simp)
    obtain ⟨h5, h6⟩ := h2 0 _ rfl
    simp only [Nat.zero_mul, Nat.add_zero] at h5 h6
    clear HSET HASK HLAST
    go_wp2
    go_returns
    exact ⟨rfl, hb⟩
end Go.Proofs.YtcofblepdfjhjaaGreatDoor
namespace Go.Proofs.YtcofblepdfjhjaaGreatDoor
open Go.RowKit
/-- What a valid step is. -/
structure GoodStep (listed : Bool) (s : PStep) : Prop where
  ok : StepOK s
  few : s.cookies.length ≤ 64
  path : isPathB (lst s.path) = true
  host : isHostB (splitB (lst s.host)).1 = true
  cks : ∀ c ∈ s.cookies, ckOK listed c = true
theorem ckOK_ok {listed : Bool} {c : PCookie} (h : ckOK listed c = true) (h1 : c.name.size ≤ 2147483647 ∧ c.value.size ≤ 2147483647 ∧ c.domain.size ≤ 2147483647 ∧ c.path.size ≤ 2147483647) : CkOK c := by
  unfold ckOK at h
  simp only [Bool.and_eq_true, decide_eq_true_eq] at h
  obtain ⟨⟨⟨⟨⟨⟨_, _⟩, _⟩, h4⟩, h5⟩, h6⟩, _⟩ := h
  exact ⟨plain_domOK h4, h5, h6, h1.1, h1.2.1, h1.2.2.1, h1.2.2.2⟩
theorem good_steps {listed : Bool} : ∀ (ss : List PStep) (t : Int), 0 ≤ t → stepsOK listed t ss = true → (∀ s ∈ ss, StFit s) → ∀ s ∈ ss, GoodStep listed s
  | [], _, _, _, _, _, hs => by cases hs
  | x :: r, t, ht, h, hf, s, hs => by
    unfold stepsOK at h
    rw [Bool.and_eq_true, Bool.and_eq_true] at h
    obtain ⟨⟨h1, h2⟩, h3⟩ := h
    unfold stOK at h1
    simp only [Bool.and_eq_true, decide_eq_true_eq] at h1
    obtain ⟨⟨⟨⟨g1, g2⟩, g3⟩, g4⟩, g5⟩ := h1
    rcases List.mem_cons.1 hs with e | e
    · subst e
      obtain ⟨f1, f2, f3, f4, f5, f6⟩ := hf s List.mem_cons_self
      refine ⟨⟨split_hostPort g2 g3, by omega, f2, f3, f4, fun c hc => ?_⟩, g5, g4, g2, fun c hc => List.all_eq_true.1 h2 c hc⟩
      obtain ⟨e1, e2, e3, e4, _⟩ := f6 c hc
      exact ckOK_ok (List.all_eq_true.1 h2 c hc) ⟨e1, e2, e3, e4⟩
    · exact good_steps r x.tm (by omega) h3 (fun y hy => hf y (List.mem_cons_of_mem _ hy)) s e
theorem valid_good {listed : Bool} {sufs : List ByteArray} {ss : List PStep} (h : validB listed sufs ss = true) (hf : ∀ s ∈ ss, StFit s) : (∀ s ∈ ss, GoodStep listed s) ∧ ss.length ≤ 64 ∧ (∀ x ∈ sufs, sufOK x = true) ∧ stepsOK listed 1 ss = true := by
  unfold validB at h
  simp only [Bool.and_eq_true, decide_eq_true_eq] at h
  exact ⟨good_steps ss 1 (by omega) h.1.2 hf, h.2, fun x hx => List.all_eq_true.1 h.1.1 x hx, h.1.2⟩
theorem run_args {w : World} {listed : Bool} {sufs : List ByteArray} {ss : List PStep} {v vs : Value} (hS : StrsAt w w.heap.size v sufs) (hT : StepsAt w w.heap.size vs ss) (hsl : sufs.length ≤ 2147483647 ∧ ∀ x ∈ sufs, x.size ≤ 2147483647) (h : validB listed sufs ss = true) (hf : ∀ s ∈ ss, StFit s) : RunArgs w sufs ss v vs :=
  have g := valid_good h hf
  ⟨hS, hT, hsl, fun s hs => (g.1 s hs).ok, g.2.1, fun s hs => (g.1 s hs).few⟩
theorem strs_nil (w : World) (B : Nat) : StrsAt w B (.slice none 0 0) [] := ⟨⟨none, 0, 0, 0, rfl, fun h => absurd h (by simp), fun j hj => absurd hj (by simp)⟩⟩
/-- A step of one cookie fits. -/
theorem fit_one {st : Bool} {t : Int} {sc ho pa : ByteArray} {c : PCookie} (h4 : fits4 sc ho pa = true) (h6 : fits6 c = true) (ht : I64 t) (hm : I64 c.maxAge) (he : I64 c.expires) : StFit ⟨st, t, sc, ho, pa, [c]⟩ := by
  unfold fits4 at h4
  unfold fits6 at h6
  obtain ⟨a1, a2, a3⟩ := of_decide_eq_true h4
  obtain ⟨b1, b2, b3, b4⟩ := of_decide_eq_true h6
  refine ⟨a1, Nat.le_trans a2 (by decide), a3, by simp, ht, fun x hx => ?_⟩
  simp only [List.mem_singleton] at hx
  subst hx
  exact ⟨b1, b2, b3, b4, hm, he⟩
/-- The same, of a host that is longer. -/
theorem fit_put {st : Bool} {t : Int} {sc ho pa : ByteArray} {c : PCookie} (a1 : sc.size ≤ 2147483647) (a2 : ho.size ≤ 4294967296) (a3 : pa.size ≤ 2147483647) (h6 : fits6 c = true) (ht : I64 t) (hm : I64 c.maxAge) (he : I64 c.expires) : StFit ⟨st, t, sc, ho, pa, [c]⟩ := by
  unfold fits6 at h6
  obtain ⟨b1, b2, b3, b4⟩ := of_decide_eq_true h6
  refine ⟨a1, a2, a3, by simp, ht, fun x hx => ?_⟩
  simp only [List.mem_singleton] at hx
  subst hx
  exact ⟨b1, b2, b3, b4, hm, he⟩
theorem fit_get {st : Bool} {t : Int} {sc ho pa : ByteArray} (a1 : sc.size ≤ 2147483647) (a2 : ho.size ≤ 4294967296) (a3 : pa.size ≤ 2147483647) (ht : I64 t) : StFit ⟨st, t, sc, ho, pa, []⟩ :=
  ⟨a1, a2, a3, by simp, ht, fun x hx => by cases hx⟩
theorem fit_ask {st : Bool} {t : Int} {sc ho pa : ByteArray} (h4 : fits4 sc ho pa = true) (ht : I64 t) : StFit ⟨st, t, sc, ho, pa, []⟩ := by
  unfold fits4 at h4
  obtain ⟨a1, a2, a3⟩ := of_decide_eq_true h4
  exact fit_get a1 (Nat.le_trans a2 (by decide)) a3 ht
theorem fits4_web {sc ho pa : ByteArray} (h : fits4 sc ho pa = true) : fits4 httpsB ho pa = true ∧ fits4 httpB ho pa = true := by
  unfold fits4 at h ⊢
  obtain ⟨a1, a2, a3⟩ := of_decide_eq_true h
  exact ⟨decide_eq_true ⟨by decide, a2, a3⟩, decide_eq_true ⟨by decide, a2, a3⟩⟩
end Go.Proofs.YtcofblepdfjhjaaGreatDoor

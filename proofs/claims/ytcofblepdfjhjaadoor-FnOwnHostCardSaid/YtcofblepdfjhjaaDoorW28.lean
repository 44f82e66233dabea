/- Walks: last, set, ask, web. -/
import Derived.Test.YtcofblepdfjhjaaDoorW27
namespace Go.Proofs.YtcofblepdfjhjaaDoor
open Go.RowKit
/-- What is asked of a run's arguments. -/
structure RunArgs (w : World) (sufs : List ByteArray) (ss : List PStep) (v vs : Value) : Prop where
  sf : StrsAt w w.heap.size v sufs
  st : StepsAt w w.heap.size vs ss
  sl : sufs.length ≤ 2147483647 ∧ ∀ x ∈ sufs, x.size ≤ 2147483647
  ok : ∀ s ∈ ss, StepOK s
  len : ss.length ≤ 64
  ck : ∀ s ∈ ss, s.cookies.length ≤ 64
/-- The list's memory of errors, and that there is some memory. -/
def Base (w : World) : Prop := 0 < w.heap.size ∧ ∃ te pe, w.cell? ⟨0, 0, none⟩ = some (.iface te pe)
theorem Base.below {w w' : World} (h : Base w) (hb : Below w.heap.size w w') : Base w' := by
  obtain ⟨h1, te, pe, h2⟩ := h
  exact ⟨Nat.lt_of_lt_of_le h1 hb.size, te, pe, (hb.cell (p := ⟨0, 0, none⟩) h1).trans h2⟩
theorem RunRel.len {psl : Option (List ByteArray)} {J : ByteArray → ByteArray → Option Ent} {n : Nat} {ss : List PStep} {o : List (List Ent)} (h : RunRel psl J n ss o) : o.length ≤ ss.length := by
  induction h with
  | nil J n => exact Nat.le_refl _
  | set _ _ ih => rw [List.length_cons]; omega
  | ask _ _ _ ih => rw [List.length_cons, List.length_cons]; omega
def LastPost (psl : Option (List ByteArray)) (ss : List PStep) (w : World) (r : Ending) (w' : World) : Prop :=
  ∃ u o, r = .returned u ∧ RunRel psl noJar 0 ss o ∧ PairsAt w' (fun b => w.heap.size ≤ b) u ((pairsOf o).getLastD []) ∧ Below w.heap.size w w'
theorem Run_args {listed : Bool} {v vs : Value} {sufs : List ByteArray} {ss : List PStep} {w : World} (h : RunArgs w sufs ss v vs) (hb : Base w) : Calls Tryd.prog 25 #[.bool listed, v, vs] w (RunPost (pslOf listed sufs) ss w) := by
  obtain ⟨h1, te, pe, h2⟩ := hb
  exact Run_any listed v vs _ sufs ss w.heap.size te pe w h.sf h.st (Nat.le_refl _) h1 rfl h2 h.sl h.ok h.len h.ck
set_option maxRecDepth 100000 in
set_option maxHeartbeats 1600000 in
theorem last_any (listed : Bool) (v vs : Value) (sufs : List ByteArray) (ss : List PStep) (w : World) (h : RunArgs w sufs ss v vs) (hb : Base w) : Calls Tryd.prog 20 #[.bool listed, v, vs] w (LastPost (pslOf listed sufs) ss w) := by
  have HR := Run_args (listed := listed) h hb
  obtain ⟨ao, b, off, cap, rfl, _⟩ := h.sf.ex
  obtain ⟨cv, hs, _⟩ := h.st.ex
  obtain ⟨ta, tb, toff, tcap, rfl, _⟩ := hs.ex
  have hl := h.len
  clear hs h
  generalize pslOf listed sufs = psl at *
  go_enter Tryd.func20, Tryd.ntmps20
  go_wp2_with fail
  refine HR.mono ?_
  rintro r w1 ⟨u, o, rfl, hrel, hout, hb1⟩
  obtain ⟨oa, ob, ooff, ocap, rfl, ho1, ho2⟩ := hout
  have HO1 := Lib.hid ho1
  have HO2 := Lib.hid ho2
  clear ho1 ho2 HR
  by_cases h0 : (pairsOf o).length = 0
  · have h0' : (((pairsOf o).length : Int) == 0) = true := by simp [h0]
    have hn : pairsOf o = [] := List.length_eq_zero_iff.1 h0
    have Hn := Lib.hid hn
    clear h0 hn
    go_wp2
    go_returns
    refine ⟨_, o, rfl, hrel, ?_, hb1⟩
    rw [Hn.out]
    exact ⟨none, 0, 0, 0, rfl, fun h => absurd h (by simp), fun j p h => by cases j <;> cases h⟩
  · have h0' : (((pairsOf o).length : Int) == 0) = false := beq_eq_false_iff_ne.2 (by omega)
    obtain ⟨rfl, ho3, ho4⟩ := HO1.out (by omega)
    have hlast : (pairsOf o)[(pairsOf o).length - 1]? = some ((pairsOf o).getLastD []) := by
      cases hp : pairsOf o with
      | nil => rw [hp] at h0; exact absurd rfl h0
      | cons x r => rw [List.getLastD_cons, ← List.getLast?_eq_getElem?, List.getLast?_cons]; simp
    obtain ⟨u, hu1, hu2⟩ := HO2.out _ _ hlast
    generalize hps : (pairsOf o).getLastD [] = ps at *
    have HP := Lib.hid hps
    clear hps
    generalize hL : (pairsOf o).length = L at *
    have hL64 : L ≤ 64 := by have := hrel.len; rw [← hL, pairsOf_len]; omega
    have e1 : IntKind.i64.wrap ((L : Int) - 1) = ((L - 1 : Nat) : Int) := by rw [IntWalk.i64_in _ (by omega)]; omega
    have HU := Lib.hid hu2
    clear hu2 hlast hL HO1 HO2
    go_wp2
    go_returns
    exact ⟨u, o, rfl, hrel, by rw [HP.out]; exact HU.out, hb1⟩
/-- A step of one cookie, as a value; a step that asks. -/
def setVal (t : Int) (sc ho pa : ByteArray) (b : Nat) : Value := .agg #[.bool true, .int .i64 t, .string sc, .string ho, .string pa, .slice (some ⟨b, 0, none⟩) 1 1]
def askVal (t : Int) (sc ho pa : ByteArray) : Value := .agg #[.bool false, .int .i64 t, .string sc, .string ho, .string pa, .slice none 0 0]
def SetRes (t : Int) (sc ho pa : ByteArray) (c : PCookie) (w : World) (r : Ending) (w' : World) : Prop := ∃ b, r = .returned (setVal t sc ho pa b) ∧ w.heap.size ≤ b ∧ b < w'.heap.size ∧ RowAt w' b 0 (ckCells c) ∧ Below w.heap.size w w'
set_option maxRecDepth 100000 in
set_option maxHeartbeats 1600000 in
theorem web_any (sc ho pa : ByteArray) (w : World) : Calls Tryd.prog 18 #[.agg #[.string sc, .string ho, .string pa]] w fun r w' => r = .returned (.agg #[.string httpsB, .string ho, .string pa]) ∧ Below w.heap.size w w' := by
  go_enter Tryd.func18, Tryd.ntmps18
  go_wp2
  go_returns
  exact ⟨rfl, two_alloc _ _ _⟩
set_option maxRecDepth 100000 in
set_option maxHeartbeats 1600000 in
theorem ask_any (t : Int) (sc ho pa : ByteArray) (w : World) : Calls Tryd.prog 17 #[.int .i64 t, .agg #[.string sc, .string ho, .string pa]] w fun r w' => r = .returned (askVal t sc ho pa) ∧ Below w.heap.size w w' := by
  go_enter Tryd.func17, Tryd.ntmps17
  go_wp2
  go_returns
  exact ⟨rfl, two_alloc _ _ _⟩
set_option maxRecDepth 100000 in
set_option maxHeartbeats 1600000 in
theorem set_any (t : Int) (sc ho pa : ByteArray) (c : PCookie) (w : World) : Calls Tryd.prog 16 #[.int .i64 t, .agg #[.string sc, .string ho, .string pa], .agg (ckCells c).toArray] w (SetRes t sc ho pa c w) := by
  have hnew : ∀ W : World, RowAt (W.alloc (.cells (ckCells c).toArray 26)) W.heap.size 0 (ckCells c) := fun W => RowAt.new W _ _
  have HN := Lib.hid hnew
  clear hnew
  unfold ckCells
  go_enter Tryd.func16, Tryd.ntmps16
  go_wp2
  go_returns
  refine ⟨w.heap.size + 1 + 1 + 1, rfl, by omega, by simp, ?_, ?_⟩
  · have := HN.out (((w.alloc (.cells #[.string sc, .string ho, .string pa] 24)).alloc (.cells (ckCells c).toArray 26)).alloc (.cells #[.bool true, .int .i64 t, .string sc, .string ho, .string pa, .slice (some ⟨w.heap.size + 1 + 1 + 1, 0, none⟩) 1 1] 32))
    simp only [World.size_alloc] at this
    exact this
  · exact (((((Below.refl _ _).alloc (Nat.le_refl _) _).alloc (by simp) _).alloc (by simp; omega) _).alloc (by simp; omega) _)
end Go.Proofs.YtcofblepdfjhjaaDoor

/- What the reference's test of steps says of a run's arguments. -/
import Derived.Test.YtcofblepdfjhjaaDoorStepMem
namespace Go.Proofs.YtcofblepdfjhjaaDoor
open Go.RowKit
/-- What a valid step is. -/
structure GoodStep (listed : Bool) (s : PStep) : Prop where
  ok : StepOK s
  few : s.cookies.length ≤ 64
  path : isPathB (lst s.path) = true
  host : isHostB (splitB (lst s.host)).1 = true
  cks : ∀ c ∈ s.cookies, ckOK listed c = true
theorem ckOK_ok {listed : Bool} {c : PCookie} (h : ckOK listed c = true) (h1 : c.name.size ≤ 2147483647 ∧ c.value.size ≤ 2147483647 ∧ c.domain.size ≤ 2147483647 ∧ c.path.size ≤ 2147483647) : CkOK c := by
  unfold ckOK at h
  simp only [Bool.and_eq_true, decide_eq_true_eq] at h
  obtain ⟨⟨⟨⟨⟨⟨_, _⟩, _⟩, h4⟩, h5⟩, h6⟩, _⟩ := h
  exact ⟨plain_domOK h4, h5, h6, h1.1, h1.2.1, h1.2.2.1, h1.2.2.2⟩
theorem good_steps {listed : Bool} : ∀ (ss : List PStep) (t : Int), 0 ≤ t → stepsOK listed t ss = true → (∀ s ∈ ss, StFit s) → ∀ s ∈ ss, GoodStep listed s
  | [], _, _, _, _, _, hs => by cases hs
  | x :: r, t, ht, h, hf, s, hs => by
    unfold stepsOK at h
    rw [Bool.and_eq_true, Bool.and_eq_true] at h
    obtain ⟨⟨h1, h2⟩, h3⟩ := h
    unfold stOK at h1
    simp only [Bool.and_eq_true, decide_eq_true_eq] at h1
    obtain ⟨⟨⟨⟨g1, g2⟩, g3⟩, g4⟩, g5⟩ := h1
    rcases List.mem_cons.1 hs with e | e
    · subst e
      obtain ⟨f1, f2, f3, f4, f5, f6⟩ := hf s List.mem_cons_self
      refine ⟨⟨split_hostPort g2 g3, by omega, f2, f3, f4, fun c hc => ?_⟩, g5, g4, g2, fun c hc => List.all_eq_true.1 h2 c hc⟩
      obtain ⟨e1, e2, e3, e4, _⟩ := f6 c hc
      exact ckOK_ok (List.all_eq_true.1 h2 c hc) ⟨e1, e2, e3, e4⟩
    · exact good_steps r x.tm (by omega) h3 (fun y hy => hf y (List.mem_cons_of_mem _ hy)) s e
theorem valid_good {listed : Bool} {sufs : List ByteArray} {ss : List PStep} (h : validB listed sufs ss = true) (hf : ∀ s ∈ ss, StFit s) : (∀ s ∈ ss, GoodStep listed s) ∧ ss.length ≤ 64 ∧ (∀ x ∈ sufs, sufOK x = true) ∧ stepsOK listed 1 ss = true := by
  unfold validB at h
  simp only [Bool.and_eq_true, decide_eq_true_eq] at h
  exact ⟨good_steps ss 1 (by omega) h.1.2 hf, h.2, fun x hx => List.all_eq_true.1 h.1.1 x hx, h.1.2⟩
theorem run_args {w : World} {listed : Bool} {sufs : List ByteArray} {ss : List PStep} {v vs : Value} (hS : StrsAt w w.heap.size v sufs) (hT : StepsAt w w.heap.size vs ss) (hsl : sufs.length ≤ 2147483647 ∧ ∀ x ∈ sufs, x.size ≤ 2147483647) (h : validB listed sufs ss = true) (hf : ∀ s ∈ ss, StFit s) : RunArgs w sufs ss v vs :=
  have g := valid_good h hf
  ⟨hS, hT, hsl, fun s hs => (g.1 s hs).ok, g.2.1, fun s hs => (g.1 s hs).few⟩
theorem strs_nil (w : World) (B : Nat) : StrsAt w B (.slice none 0 0) [] := ⟨⟨none, 0, 0, 0, rfl, fun h => absurd h (by simp), fun j hj => absurd hj (by simp)⟩⟩
/-- A step of one cookie fits. -/
theorem fit_one {st : Bool} {t : Int} {sc ho pa : ByteArray} {c : PCookie} (h4 : fits4 sc ho pa = true) (h6 : fits6 c = true) (ht : I64 t) (hm : I64 c.maxAge) (he : I64 c.expires) : StFit ⟨st, t, sc, ho, pa, [c]⟩ := by
  unfold fits4 at h4
  unfold fits6 at h6
  obtain ⟨a1, a2, a3⟩ := of_decide_eq_true h4
  obtain ⟨b1, b2, b3, b4⟩ := of_decide_eq_true h6
  refine ⟨a1, a2, a3, by simp, ht, fun x hx => ?_⟩
  simp only [List.mem_singleton] at hx
  subst hx
  exact ⟨b1, b2, b3, b4, hm, he⟩
theorem fit_ask {st : Bool} {t : Int} {sc ho pa : ByteArray} (h4 : fits4 sc ho pa = true) (ht : I64 t) : StFit ⟨st, t, sc, ho, pa, []⟩ := by
  unfold fits4 at h4
  obtain ⟨a1, a2, a3⟩ := of_decide_eq_true h4
  exact ⟨a1, a2, a3, by simp, ht, fun x hx => by cases hx⟩
theorem fits4_web {sc ho pa : ByteArray} (h : fits4 sc ho pa = true) : fits4 httpsB ho pa = true ∧ fits4 httpB ho pa = true := by
  unfold fits4 at h ⊢
  obtain ⟨a1, a2, a3⟩ := of_decide_eq_true h
  exact ⟨decide_eq_true ⟨by decide, a2, a3⟩, decide_eq_true ⟨by decide, a2, a3⟩⟩
end Go.Proofs.YtcofblepdfjhjaaDoor

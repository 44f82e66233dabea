/- Steps in memory that a law itself lays. -/
import Derived.Test.YtcofblepdfjhjaaDoorW28
namespace Go.Proofs.YtcofblepdfjhjaaDoor
open Go.RowKit
theorem row3 {w : World} {b o : Nat} {u0 u1 u2 : Value} (h : RowAt w b o [u0, u1, u2]) : w.cell? ⟨b, o, none⟩ = some u0 ∧ w.cell? ⟨b, o + 1, none⟩ = some u1 ∧ w.cell? ⟨b, o + 2, none⟩ = some u2 := ⟨h 0 _ rfl, h 1 _ rfl, h 2 _ rfl⟩
/-- A row behind a call: W is w, perhaps with draws. -/
theorem row_step {w W w' : World} {b : Nat} {us : List Value} (h : RowAt w b 0 us ∧ b < w.heap.size) (hb : Below W.heap.size W w') (e : W.heap = w.heap) : RowAt w' b 0 us ∧ b < w'.heap.size := by
  have hl : b < W.heap.size := by rw [e]; exact h.2
  refine ⟨?_, Nat.lt_of_lt_of_le hl hb.size⟩
  refine RowAt.below (w := W) (fun i u hu => ?_) hb hl
  have := h.1 i u hu
  unfold World.cell? at this ⊢
  rw [e]; exact this
theorem below_step {a w W w' : World} (h : Below a.heap.size a w) (hb : Below W.heap.size W w') (e1 : W.os = w.os) (e2 : W.tape = w.tape) (e3 : W.output = w.output) (e4 : W.heap = w.heap) : Below a.heap.size a w' := by
  obtain ⟨h1, h2, h3, h4, h5⟩ := h
  obtain ⟨g1, g2, g3, g4, g5⟩ := hb
  rw [e4] at g4 g5
  exact ⟨g1.trans (e1.trans h1), g2.trans (e2.trans h2), g3.trans (e3.trans h3), by omega, fun k hk => (g5 k (by omega)).trans (h5 k hk)⟩
theorem flat6_get (f : PStep × Value → List Value) (hf : ∀ p, (f p).length = 6) : ∀ (L : List (PStep × Value)) (i c : Nat) (p : PStep × Value), c < 6 → L[i]? = some p → (L.flatMap f)[i * 6 + c]? = (f p)[c]?
  | [], i, c, p, _, h => by simp at h
  | x :: r, 0, c, p, hc, h => by
    simp at h; subst h
    rw [List.flatMap_cons, Nat.zero_mul, Nat.zero_add, List.getElem?_append_left (by rw [hf]; exact hc)]
  | x :: r, i + 1, c, p, hc, h => by
    rw [List.flatMap_cons, List.getElem?_append_right (by rw [hf]; omega), hf]
    have e : (i + 1) * 6 + c - 6 = i * 6 + c := by omega
    rw [e]
    exact flat6_get f hf r i c p hc (by simpa using h)
/-- Steps laid into a block of their own. -/
theorem steps_new (X : World) (T : TypeId) (L : List (PStep × Value)) (hc : ∀ p ∈ L, CookiesAt X X.heap.size p.2 p.1.cookies) :
    StepsAt (X.alloc (.cells (L.flatMap fun p => stCells p.1 p.2).toArray T)) (X.alloc (.cells (L.flatMap fun p => stCells p.1 p.2).toArray T)).heap.size (.slice (some ⟨X.heap.size, 0, none⟩) L.length L.length) (L.map (·.1)) := by
  have hal : Below X.heap.size X (X.alloc (.cells (L.flatMap fun p => stCells p.1 p.2).toArray T)) := (Below.refl _ _).alloc (Nat.le_refl _) _
  have hrow := RowAt.new X (L.flatMap fun p => stCells p.1 p.2) T
  have hsz : X.heap.size < (X.alloc (.cells (L.flatMap fun p => stCells p.1 p.2).toArray T)).heap.size := by simp
  generalize X.alloc (.cells (L.flatMap fun p => stCells p.1 p.2).toArray T) = W at *
  refine ⟨⟨fun j => ((L[j]?).map (·.2)).getD (.slice none 0 0), ⟨⟨_, X.heap.size, 0, L.length, by rw [List.length_map], fun _ => ⟨rfl, hsz⟩, fun j hj => ?_⟩⟩, fun j s hs => ?_⟩⟩
  · rw [List.length_map] at hj
    have hp : L[j]? = some L[j] := List.getElem?_eq_getElem hj
    generalize L[j] = p at hp
    have hcv : (((L[j]?).map (·.2)).getD (.slice none 0 0) : Value) = p.2 := by rw [hp]; rfl
    have hss : (L.map (·.1))[j]? = some p.1 := by rw [List.getElem?_map, hp]; rfl
    rw [hss]
    show RowAt W X.heap.size (0 + j * 6) (stCells p.1 (((L[j]?).map (·.2)).getD (.slice none 0 0)))
    rw [hcv]
    intro c u hu
    have hc6 : c < 6 := by have := (List.getElem?_eq_some_iff.1 hu).1; simpa [stCells] using this
    have := flat6_get (fun p => stCells p.1 p.2) (fun _ => rfl) L j c p hc6 hp
    rw [hu] at this
    have h2 := hrow _ u this
    rw [Nat.zero_add] at h2 ⊢
    exact h2
  · rw [List.getElem?_map] at hs
    cases hp : L[j]? with
    | none => rw [hp] at hs; cases hs
    | some p =>
      rw [hp] at hs
      have e : p.1 = s := Option.some.inj hs
      have hcv : (((L[j]?).map (·.2)).getD (.slice none 0 0) : Value) = p.2 := by rw [hp]; rfl
      show CookiesAt W W.heap.size (((L[j]?).map (·.2)).getD (.slice none 0 0)) s.cookies
      rw [hcv, ← e]
      have h := (hc p (List.mem_of_getElem? hp)).below hal (Nat.le_refl _)
      obtain ⟨ao, b, off, cap, h1, h2, h3⟩ := h.ex
      exact ⟨⟨ao, b, off, cap, h1, fun hl => ⟨(h2 hl).1, by have := (h2 hl).2; omega⟩, h3⟩⟩
theorem cookies_one {w : World} {b : Nat} {c : PCookie} (h : RowAt w b 0 (ckCells c) ∧ b < w.heap.size) : CookiesAt w w.heap.size (.slice (some ⟨b, 0, none⟩) 1 1) [c] :=
  ⟨⟨_, b, 0, 1, rfl, fun _ => ⟨rfl, h.2⟩, fun j hj => by
    have hj0 : j = 0 := by simp at hj; omega
    subst hj0
    simpa using h.1⟩⟩
theorem cookies_nil (w : World) (B : Nat) : CookiesAt w B (.slice none 0 0) [] := ⟨⟨none, 0, 0, 0, rfl, fun h => absurd h (by simp), fun j hj => absurd hj (by simp)⟩⟩
theorem SliceAt.heap {W V : World} {B n sz : Nat} {v : Value} {cells : Nat → List Value} (h : SliceAt W B v n sz cells) (e : V.heap = W.heap) : SliceAt V B v n sz cells := by
  obtain ⟨ao, b, off, cap, h1, h2, h3⟩ := h.ex
  refine ⟨⟨ao, b, off, cap, h1, h2, fun j hj i u hu => ?_⟩⟩
  have := h3 j hj i u hu
  unfold World.cell? at this ⊢
  rw [e]; exact this
theorem StepsAt.heap {W V : World} {B : Nat} {v : Value} {ss : List PStep} (h : StepsAt W B v ss) (e : V.heap = W.heap) : StepsAt V B v ss := by
  obtain ⟨cv, h1, h2⟩ := h.ex
  exact ⟨⟨cv, h1.heap e, fun j s hs => SliceAt.heap (h2 j s hs) e⟩⟩
theorem SliceAt.up {W : World} {B B' n sz : Nat} {v : Value} {cells : Nat → List Value} (h : SliceAt W B v n sz cells) (hB : B ≤ B') : SliceAt W B' v n sz cells := by
  obtain ⟨ao, b, off, cap, h1, h2, h3⟩ := h.ex
  exact ⟨⟨ao, b, off, cap, h1, fun hn => ⟨(h2 hn).1, Nat.lt_of_lt_of_le (h2 hn).2 hB⟩, h3⟩⟩
theorem StepsAt.up {W : World} {B B' : Nat} {v : Value} {ss : List PStep} (h : StepsAt W B v ss) (hB : B ≤ B') : StepsAt W B' v ss := by
  obtain ⟨cv, h1, h2⟩ := h.ex
  exact ⟨⟨cv, h1.up hB, fun j s hs => SliceAt.up (h2 j s hs) hB⟩⟩
theorem args_heap {W V : World} {sufs : List ByteArray} {ss : List PStep} {v vs : Value} (h : RunArgs W sufs ss v vs) (e : V.heap = W.heap) : RunArgs V sufs ss v vs := by
  obtain ⟨cv, h1, h2⟩ := h.st.ex
  refine ⟨?_, ?_, h.sl, h.ok, h.len, h.ck⟩
  · rw [e]; exact SliceAt.heap h.sf e
  · rw [e]; exact ⟨⟨cv, h1.heap e, fun j s hs => SliceAt.heap (h2 j s hs) e⟩⟩
theorem base_heap {W V : World} (h : Base W) (e : V.heap = W.heap) : Base V := by
  obtain ⟨h1, te, pe, h2⟩ := h
  refine ⟨by rw [e]; exact h1, te, pe, ?_⟩
  unfold World.cell? at h2 ⊢
  rw [e]; exact h2
theorem Base.alloc {w : World} (h : Base w) (o : Obj) : Base (w.alloc o) := h.below ((Below.refl _ _).alloc (Nat.le_refl _) o)
theorem PairsAt.to {w : World} {Q Q' : Nat → Prop} {v : Value} {ps : List (ByteArray × ByteArray)} (h : PairsAt w Q v ps) (hQ : ∀ b, b < w.heap.size → Q b → Q' b) : PairsAt w Q' v ps := h.chg (Chg.refl (fun _ => False) w) (fun _ _ _ e => e) hQ
end Go.Proofs.YtcofblepdfjhjaaDoor

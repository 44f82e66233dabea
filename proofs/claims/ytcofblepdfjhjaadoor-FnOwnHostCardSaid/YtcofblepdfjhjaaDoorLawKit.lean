/- What the walks of the laws share. -/
import Derived.Test.YtcofblepdfjhjaaDoorW29
import Derived.Test.YtcofblepdfjhjaaDoorValidArgs
import Derived.Test.YtcofblepdfjhjaaDoorW11
import Derived.Test.YtcofblepdfjhjaaDoorEqP
namespace Go.Proofs.YtcofblepdfjhjaaDoor
open Go.RowKit
theorem StrsAt.up {W : World} {B B' : Nat} {v : Value} {ls : List ByteArray} (h : StrsAt W B v ls) (hB : B ≤ B') : StrsAt W B' v ls := SliceAt.up h hB
theorem fits1_use {sufs : List ByteArray} (h : fits1 sufs = true) : sufs.length ≤ 2147483647 ∧ ∀ x ∈ sufs, x.size ≤ 2147483647 := by
  unfold fits1 at h
  simpa using h
theorem fits4_use {sc ho pa : ByteArray} (h : fits4 sc ho pa = true) : sc.size ≤ 2147483647 ∧ ho.size ≤ 2147483647 ∧ pa.size ≤ 2147483647 := by
  unfold fits4 at h
  exact of_decide_eq_true h
theorem fits6_use {c : PCookie} (h : fits6 c = true) : c.name.size ≤ 2147483647 ∧ c.value.size ≤ 2147483647 ∧ c.domain.size ≤ 2147483647 ∧ c.path.size ≤ 2147483647 := by
  unfold fits6 at h
  exact of_decide_eq_true h
/-- Three boxed parameters. -/
structure Boxes3 (w W : World) (sa ha pa sb hb pb : ByteArray) (c : PCookie) : Prop where
  bel : Below w.heap.size w W
  a : RowAt W w.heap.size 0 [Value.string sa, .string ha, .string pa]
  b : RowAt W (w.heap.size + 1) 0 [Value.string sb, .string hb, .string pb]
  c : RowAt W (w.heap.size + 2) 0 (ckCells c)
  l : Loose W (w.heap.size + 2)
  sz : W.heap.size = w.heap.size + 3
theorem boxes3 (w : World) (sa ha pa sb hb pb : ByteArray) (c : PCookie) :
    Boxes3 w (((w.alloc (.cells [Value.string sa, .string ha, .string pa].toArray 24)).alloc (.cells [Value.string sb, .string hb, .string pb].toArray 24)).alloc (.cells (ckCells c).toArray 26)) sa ha pa sb hb pb c := by
  have e1 : (w.alloc (.cells [Value.string sa, .string ha, .string pa].toArray 24)).heap.size = w.heap.size + 1 := by simp
  have e2 : ((w.alloc (.cells [Value.string sa, .string ha, .string pa].toArray 24)).alloc (.cells [Value.string sb, .string hb, .string pb].toArray 24)).heap.size = w.heap.size + 2 := by simp
  refine ⟨(((Below.refl _ w).alloc (Nat.le_refl _) _).alloc (by omega) _).alloc (by omega) _, ?_, ?_, ?_, fun i => by simp [go_sem], by simp⟩
  · exact ((RowAt.new w [Value.string sa, .string ha, .string pa] 24).below ((Below.refl (w.heap.size + 1) _).alloc (by omega) _) (by omega)).below ((Below.refl (w.heap.size + 1) _).alloc (by omega) _) (by omega)
  · have h := RowAt.new (w.alloc (.cells [Value.string sa, .string ha, .string pa].toArray 24)) [Value.string sb, .string hb, .string pb] 24
    rw [e1] at h
    exact h.below ((Below.refl (w.heap.size + 2) _).alloc (by omega) _) (by omega)
  · have h := RowAt.new ((w.alloc (.cells [Value.string sa, .string ha, .string pa].toArray 24)).alloc (.cells [Value.string sb, .string hb, .string pb].toArray 24)) (ckCells c) 26
    rw [e2] at h
    exact h
/-- A cookie set, then a question. -/
def saSteps (t1 t2 : Int) (sa ha pa sb hb pb : ByteArray) (c : PCookie) : List PStep := [⟨true, t1, sa, ha, pa, [c]⟩, ⟨false, t2, sb, hb, pb, []⟩]
theorem sa_args {t1 t2 : Int} {X V : World} {b1 : Nat} {sa ha pa sb hb pb : ByteArray} {c : PCookie} (R1 : RowAt X b1 0 (ckCells c) ∧ b1 < X.heap.size)
    (e : V.heap = (X.alloc (.cells (stCells ⟨true, t1, sa, ha, pa, [c]⟩ (.slice (some ⟨b1, 0, none⟩) 1 1) ++ stCells ⟨false, t2, sb, hb, pb, []⟩ (.slice none 0 0)).toArray 32)).heap) :
    StepsAt V V.heap.size (.slice (some ⟨X.heap.size, 0, none⟩) 2 2) (saSteps t1 t2 sa ha pa sb hb pb c) := by
  rw [e]
  exact StepsAt.heap (steps_new X 32 [(⟨true, t1, sa, ha, pa, [c]⟩, .slice (some ⟨b1, 0, none⟩) 1 1), (⟨false, t2, sb, hb, pb, []⟩, .slice none 0 0)] (fun p hp => by
      simp only [List.mem_cons, List.not_mem_nil, or_false] at hp
      rcases hp with rfl | rfl
      · exact cookies_one R1
      · exact cookies_nil _ _)) e
theorem sa_fit {t1 t2 : Int} {sa ha pa sb hb pb : ByteArray} {c : PCookie} (h1 : fits4 sa ha pa = true) (h2 : fits4 sb hb pb = true) (h6 : fits6 c = true) (hc : I64 c.maxAge ∧ I64 c.expires) (ht : I64 t1 ∧ I64 t2) : ∀ s ∈ saSteps t1 t2 sa ha pa sb hb pb c, StFit s := by
  intro s hs
  unfold saSteps at hs
  simp only [List.mem_cons, List.not_mem_nil, or_false] at hs
  rcases hs with rfl | rfl
  · exact fit_one h1 h6 ht.1 hc.1 hc.2
  · exact fit_ask h2 ht.2
theorem eqPair_any {w : World} {Q Q' : Nat → Prop} {u u' : Value} {ps qs : List (ByteArray × ByteArray)} (h : PairsAt w Q u ps) (h' : PairsAt w Q' u' qs) (hl : ps.length ≤ 2147483647) :
    Calls Tryd.prog 26 #[u, u'] w fun r w' => r = .returned (.bool (decide (ps = qs))) ∧ Below w.heap.size w w' := by
  obtain ⟨ao, b, off, cap, rfl, h1, h2⟩ := h
  obtain ⟨ao', b', off', cap', rfl, h1', h2'⟩ := h'
  exact eqPair_raw ao ao' b off cap b' off' cap' ps qs w (fun h => (h1 h).1) (fun h => (h1' h).1) h2 h2' hl
theorem PairsAt.below {w w' : World} {Q : Nat → Prop} {u : Value} {ps : List (ByteArray × ByteArray)} (h : PairsAt w Q u ps) (hb : Below w.heap.size w w') : PairsAt w' Q u ps := by
  obtain ⟨ao, b, off, cap, h1, h2, h3⟩ := h
  refine ⟨ao, b, off, cap, h1, fun hl => ⟨(h2 hl).1, Nat.lt_of_lt_of_le (h2 hl).2.1 hb.size, (h2 hl).2.2⟩, fun j p hj => ?_⟩
  have hlt := (h2 (by have := (List.getElem?_eq_some_iff.1 hj).1; omega)).2.1
  obtain ⟨g1, g2⟩ := h3 j p hj
  exact ⟨(hb.cell (p := ⟨b, off + j * 2, none⟩) hlt).trans g1, (hb.cell (p := ⟨b, off + j * 2 + 1, none⟩) hlt).trans g2⟩
/-- All steps but the first. -/
theorem StepsAt.drop1 {w : World} {B b off n cap : Nat} {s0 : PStep} {r : List PStep} (h : StepsAt w B (.slice (some ⟨b, off, none⟩) n cap) (s0 :: r)) (cap' : Nat) : StepsAt w B (.slice (some ⟨b, off + 6, none⟩) r.length cap') r := by
  obtain ⟨cv, hs, h2⟩ := h.ex
  obtain ⟨ao, b', off', cap1, hv, ha, hc⟩ := hs.ex
  injection hv with e1 e2 e3
  obtain ⟨e4, hlt⟩ := ha (by simp)
  rw [e4] at e1
  injection e1 with e5
  injection e5 with e6 e7
  subst e6 e7
  refine ⟨fun j => cv (j + 1), ⟨_, b, off + 6, cap', rfl, fun _ => ⟨rfl, hlt⟩, fun j hj => ?_⟩, fun j s hj => h2 (j + 1) s (by simpa using hj)⟩
  have := hc (j + 1) (by simp; exact hj)
  have e : off + 6 + j * 6 = off + (j + 1) * 6 := by omega
  rw [e]
  simpa using this
end Go.Proofs.YtcofblepdfjhjaaDoor

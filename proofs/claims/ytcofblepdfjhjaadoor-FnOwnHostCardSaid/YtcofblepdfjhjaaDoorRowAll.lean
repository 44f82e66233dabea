/- What all rows of this seat share: the listed variables, the witness's world, the end. -/
import Derived.Test.YtcofblepdfjhjaaDoorRowOpen
import Derived.Test.YtcofblepdfjhjaaDoorW28
import Derived.Test.YtcofblepdfjhjaaDoorCards
import Derived.Test.YtcofblepdfjhjaaDoorTie
import Derived.WalkKit
import Derived.ProofKit
import Derived.OpenShut
import Derived.Deep.DeepHandedRow
import Derived.Deep.DeepWitnessRowRef
import Derived.LaidLaws
import Derived.Lay
import Derived.Carry
import Derived.MakeChecks
import Derived.LaidMore
import Derived.Stop.Joined
namespace Go.Proofs.YtcofblepdfjhjaaDoor
open Go.ChangeShapes Go.WideShapes Go.ChangeAt Go.RowKit
theorem ownOff : ownKnob Tryd.prog.godebug = none := by kernel_rfl
theorem outOK : laidOutB Tryd.prog = true := by kernel_rfl
def laidL : List (String × DataW Unit) := [("pub-cookiejars/pub/cookiejar.errIllegalDomain", Rows.laid_pub_cookiejars_pub_cookiejar_errIllegalDomain), ("pub-cookiejars/pub/cookiejar.errMalformedDomain", Rows.laid_pub_cookiejars_pub_cookiejar_errMalformedDomain)]
theorem gIll : Tryd.prog.globalNamed "pub-cookiejars/pub/cookiejar.errIllegalDomain" = some 0 := by kernel_rfl
theorem tIll : (Tryd.prog.globals[0]?).map (·.type) = some 78 := by kernel_rfl
theorem base_of_laid {W : World} (h : laidMetH Tryd.prog laidL W) : Base W := by
  rw [MakeChecks.laidMetH_plain _ _ _ (by kernel_rfl)] at h
  obtain ⟨ps, hv, _, _⟩ := h
  obtain ⟨g, t, cs, fuel, p, q, hg, ht, hcs, htr, _, _⟩ := hv
  obtain rfl := Option.some.inj (gIll.symm.trans hg)
  obtain rfl := Option.some.inj (tIll.symm.trans ht)
  obtain ⟨_, u, pv, hcs', _, _⟩ := iface_of_trod Tryd.underlying78 htr
  have hc := World.var?_cell hg hcs 0
  rw [Array.eq_one_of_toList hcs'] at hc
  have hc' : W.cell? ⟨0, 0, none⟩ = some (.iface u pv) := hc
  refine ⟨?_, u, pv, hc'⟩
  rcases Nat.eq_zero_or_pos W.heap.size with h0 | h0
  · have : W.heap[0]? = none := by simp [h0]
    unfold World.cell? at hc'
    rw [this] at hc'
    cases hc'
  · exact h0
/-- The witness's world. -/
noncomputable def lw (os : Os) : World := World.laidAll Tryd.prog os laidL
theorem lw_met (os : Os) (args : Array Value) : laidMet Tryd.prog laidL ((lw os).forCall (fun _ _ => 0) ⟨#[], args, []⟩).memory := laidMet_laidAll _ (by kernel_rfl) (by kernel_rfl)
section
variable {H : Type} {enc : TypeId × Value → H} {W W' : World}
theorem trodAll_below (hb : Below W.heap.size W W') : ∀ {ts : List TypeId} {vs : List Value} {ds : List (DataW H)} {ps : List MemPlace}, (∀ t ∈ ts, Tryd.prog.readableRec t = true ∧ t < Tryd.prog.types.size) →
    DataW.TrodAll enc Tryd.prog W 0 (fun _ => true) true ts vs ds ps → (∀ x ∈ ps, x.block < W.heap.size) → DataW.TrodAll enc Tryd.prog W' 0 (fun b => decide (b < W.heap.size)) true ts vs ds ps
  | [], vs, ds, ps, _, h, _ => by
    obtain ⟨rfl, rfl, rfl⟩ := trodAll_nil h
    exact trodAll_mk0
  | t :: ts, vs, ds, ps, ht, h, hlt => by
    obtain ⟨v, vs', d, ds', p, q, rfl, rfl, rfl, h1, h2⟩ := trodAll_cons h
    obtain ⟨r1, r2⟩ := ht t List.mem_cons_self
    exact trodAll_cons_mk (Below.trod outOK r1 r2 h1 hb fun x hx => hlt x (List.mem_append_left _ hx)) (trodAll_below hb (fun t' h' => ht t' (List.mem_cons_of_mem _ h')) h2 fun x hx => hlt x (List.mem_append_right _ hx))
theorem fin_post {f : Func} {s : ChangeSpec} {args : Array Value} {ds : List (DataW H)} {before : List MemPlace} (hv0 : s.vars = []) (hW : DataW.Whole enc Tryd.prog f.params.toList s.vars false W args.toList ds [] before)
    (hs1 : (s.fn H (ds ++ [])).results = [.lit (.bool true)]) (hs2 : (s.fn H (ds ++ [])).args = ds) (hs3 : (s.fn H (ds ++ [])).vars = []) (hr : f.resultTypes = #[4])
    (hp : ∀ t ∈ f.params.toList, Tryd.prog.readableRec t = true ∧ t < Tryd.prog.types.size) (hb : Below W.heap.size W W') : s.post enc Tryd.prog f false true false false W args (.bool true) W' := by
  have hW' := hW
  obtain ⟨p, q, hA, hV, rfl, _, _⟩ := hW
  rw [hv0] at hV
  obtain ⟨_, rfl⟩ := trodVars_none hV
  have hlt : ∀ x ∈ p, x.block < W.heap.size := fun x hx => by simpa using hW'.lt x (List.mem_append_left _ hx)
  refine ⟨ds, [], p ++ [], [], p, [], hW', ?_, ?_, ?_, hb.frame _, fun h => by cases h⟩
  · rw [hs1, hr]
    exact trodAll_mk1 (shut_bool Tryd.underlying4 _)
  · rw [hs2]
    exact trodAll_below hb hp hA hlt
  · rw [hs3, hv0]
    rfl
end
end Go.Proofs.YtcofblepdfjhjaaDoor

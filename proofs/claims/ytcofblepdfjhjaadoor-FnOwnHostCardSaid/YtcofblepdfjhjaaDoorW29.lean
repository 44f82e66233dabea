/- Walks: alive. -/
import Derived.Test.YtcofblepdfjhjaaDoorStepMem
import Derived.Test.YtcofblepdfjhjaaDoorLawsB
namespace Go.Proofs.YtcofblepdfjhjaaDoor
open Go.RowKit
def aliveHost : ByteArray := ⟨#[119, 119, 119, 46, 101, 120, 97, 109, 112, 108, 101, 46, 111, 114, 103]⟩
def slashB : ByteArray := ⟨#[47]⟩
def aliveCk : PCookie := ⟨⟨#[110]⟩, ⟨#[118]⟩, ⟨#[]⟩, ⟨#[]⟩, 0, 0, false⟩
def aliveSet : PStep := ⟨true, 1, httpB, aliveHost, slashB, [aliveCk]⟩
def aliveAsk : PStep := ⟨false, 2, httpB, aliveHost, slashB, []⟩
theorem alive_ok : ∀ s ∈ [aliveSet, aliveAsk], StepOK s := by
  have h1 : isHostB (splitB (lst aliveHost)).1 = true := by decide +kernel
  have h2 : portOK (splitB (lst aliveHost)).2 = true := by decide +kernel
  have hh := split_hostPort h1 h2
  intro s hs
  simp only [List.mem_cons, List.not_mem_nil, or_false] at hs
  rcases hs with rfl | rfl
  · refine ⟨hh, by decide, by decide, by decide, by decide, fun c hc => ?_⟩
    simp only [aliveSet, List.mem_singleton] at hc
    subst hc
    exact ⟨Or.inl rfl, by decide, by decide, by decide, by decide, by decide, by decide⟩
  · exact ⟨hh, by decide, by decide, by decide, by decide, fun c hc => by cases hc⟩
/-- The answer. -/
theorem alive_law {o : List (List Ent)} (h : RunRel none noJar 0 [aliveSet, aliveAsk] o) : (pairsOf o).getLastD [] = [(⟨#[110]⟩, ⟨#[118]⟩)] := by
  obtain ⟨L, rfl, hL⟩ := one_asked (t := 1) (sa := httpB) (ha := aliveHost) (pa := slashB) (u := 2) (sb := httpB) (hb := aliveHost) (pb := slashB) (c := aliveCk) web_http h
  rw [(setJ_one rfl web_http).1] at hL
  have e1 : hostOf ⟨true, 1, httpB, aliveHost, slashB, [aliveCk]⟩ = str (hostB (lst aliveHost)) := rfl
  rw [e1, updJ_at] at hL
  have hdt : domTy none (str (hostB (lst aliveHost))) aliveCk.domain = some (str (hostB (lst aliveHost)), true) := domTy_own _ _
  rcases set_first (psl := none) (host := str (hostB (lst aliveHost))) (defp := defOf ⟨true, 1, httpB, aliveHost, slashB, [aliveCk]⟩) (now := 1) (c := aliveCk) (n := 0) with hS | ⟨e, p, hp', _, hS, f1, f2, f3, f4, f5, f6, f7, f8, f9⟩
  · exfalso
    obtain ⟨e, h1, h2, _⟩ := newEnt_some (defp := defOf ⟨true, 1, httpB, aliveHost, slashB, [aliveCk]⟩) (now := 1) hdt
    rw [h1, decide_eq_false (by decide)] at hS
    have := hS (entId e)
    simp [setOne, updS] at this
  · have hS' : (setOne (PStep.tm ⟨true, 1, httpB, aliveHost, slashB, [aliveCk]⟩) (newEnt none (str (hostB (lst aliveHost))) (defOf ⟨true, 1, httpB, aliveHost, slashB, [aliveCk]⟩) (PStep.tm ⟨true, 1, httpB, aliveHost, slashB, [aliveCk]⟩) aliveCk) (noJar (keyOf none (str (hostB (lst aliveHost)))), 0)).1 = _ := hS
    rw [hS'] at hL
    rw [hdt] at hp'
    cases hp'
    have hsend : sendB e (isHttps httpB) (str (hostB (lst aliveHost))) (askPath slashB) = true := by
      unfold sendB
      rw [sec_not (by rw [f6]; rfl), pat_root (by rw [f4]; decide) (by decide), domMatch, f1]
      simp
    have hal : aliveE 2 e = true := by
      unfold aliveE
      rw [f7, decide_eq_false (by decide)]; rfl
    rw [hL.only, hsend, hal]
    simp [pairsOf, pairOf, f3, f5, aliveCk]
theorem alive_args {X : World} {b1 : Nat} (R1 : RowAt X b1 0 (ckCells aliveCk) ∧ b1 < X.heap.size) :
    RunArgs (X.alloc (.cells (stCells aliveSet (.slice (some ⟨b1, 0, none⟩) 1 1) ++ stCells aliveAsk (.slice none 0 0)).toArray 32)) [] [aliveSet, aliveAsk] (.slice none 0 0) (.slice (some ⟨X.heap.size, 0, none⟩) 2 2) := by
  refine ⟨⟨⟨none, 0, 0, 0, rfl, fun h => absurd h (by simp), fun j hj => absurd hj (by simp)⟩⟩, ?_, ⟨by simp, fun x hx => by cases hx⟩, alive_ok, by simp, fun s hs => ?_⟩
  · exact steps_new X 32 [(aliveSet, .slice (some ⟨b1, 0, none⟩) 1 1), (aliveAsk, .slice none 0 0)] (fun p hp => by
      simp only [List.mem_cons, List.not_mem_nil, or_false] at hp
      rcases hp with rfl | rfl
      · exact cookies_one R1
      · exact cookies_nil _ _)
  · simp only [List.mem_cons, List.not_mem_nil, or_false] at hs
    rcases hs with rfl | rfl <;> decide
set_option maxRecDepth 100000 in
set_option maxHeartbeats 6400000 in
theorem alive_any (w : World) (hB : Base w) : Calls Tryd.prog 21 #[] w fun r w' => r = .returned (.bool true) ∧ Below w.heap.size w w' := by
  have HSET := fun W => set_any 1 httpB aliveHost slashB aliveCk W
  have HASK := fun W => ask_any 2 httpB aliveHost slashB W
  have HLAST := fun W b h => last_any false (.slice none 0 0) (.slice (some ⟨b, 0, none⟩) 2 2) [] [aliveSet, aliveAsk] W h
  unfold SetRes setVal ckCells at HSET
  unfold askVal at HASK
  unfold httpB aliveHost slashB at HSET HASK
  go_enter Tryd.func21, Tryd.ntmps21
  go_upto_region 2 with (fail)
  have HA0 := RowAt.new w [.string httpB, .string aliveHost, .string slashB] 24
  have hBa := (Below.refl w.heap.size w).alloc (Nat.le_refl _) (.cells [Value.string httpB, .string aliveHost, .string slashB].toArray 24)
  have hsa : (w.alloc (.cells [Value.string httpB, .string aliveHost, .string slashB].toArray 24)).heap.size = w.heap.size + 1 := by simp
  go_cut [2] (fun v2 wx => ∃ u, u = v2 ∧ PairsAt wx (fun b => w.heap.size ≤ b) u [(⟨#[110]⟩, ⟨#[118]⟩)] ∧ Below w.heap.size w wx)
  case first =>
    have hW : ∃ W, W = w.alloc (.cells [Value.string httpB, .string aliveHost, .string slashB].toArray 24) := ⟨_, rfl⟩
    obtain ⟨W, hW⟩ := hW
    have hW' : w.alloc (.cells #[.string ⟨#[104, 116, 116, 112]⟩, .string ⟨#[119, 119, 119, 46, 101, 120, 97, 109, 112, 108, 101, 46, 111, 114, 103]⟩, .string ⟨#[47]⟩] 24) = W := hW.symm
    rw [← hW] at HA0 hBa hsa
    rw [hW']
    clear hW hW'
    have BB := Below.refl W.heap.size W
    have hlt : w.heap.size < W.heap.size := by omega
    unfold httpB aliveHost slashB at HA0
    obtain ⟨z0, z1, z2⟩ := row3 HA0
    go_region_held3 (fun w' => w'.cell? ⟨w.heap.size, 0, none⟩ = some (.string ⟨#[104, 116, 116, 112]⟩) ∧ w'.cell? ⟨w.heap.size, 1, none⟩ = some (.string ⟨#[119, 119, 119, 46, 101, 120, 97, 109, 112, 108, 101, 46, 111, 114, 103]⟩) ∧ w'.cell? ⟨w.heap.size, 2, none⟩ = some (.string ⟨#[47]⟩)) (go_keep)
      (first
        | (go_at_call 16; refine (HSET _).mono ?_; rintro r w2 ⟨b1, rfl, hb1, hb2, hb3, hb4⟩; have BB := below_step BB hb4 rfl rfl rfl rfl; obtain ⟨z0, z1, z2⟩ := row3 (HA0.below BB hlt); have R1 := And.intro hb3 hb2)
        | (go_at_call 17; refine (HASK _).mono ?_; rintro r w2 ⟨rfl, hb4⟩; have BB := below_step BB hb4 rfl rfl rfl rfl; obtain ⟨z0, z1, z2⟩ := row3 (HA0.below BB hlt); try have R1 := row_step R1 hb4 rfl)
        | (go_at_call 20; have BS := BB.size; refine (HLAST _ _ (args_heap (alive_args R1) (by rfl)) (base_heap ((hB.below (hBa.trans (BB.mono (by omega)))).alloc _) (by rfl))).mono ?_; rintro r w2 ⟨u, o, rfl, hrel, hp, hb4⟩; have BB := below_step (BB.alloc BB.size _) hb4 rfl rfl rfl rfl; obtain ⟨z0, z1, z2⟩ := row3 (HA0.below BB hlt)))
    all_goals
      have hw := alive_law hrel
      rw [hw] at hp
      have hq := hp.to (Q' := fun b => w.heap.size ≤ b) (fun b _ h => by simp at h; omega)
      have HQ := Lib.hid hq
      have hbf := hBa.trans (BB.mono (by omega))
      clear HSET HASK HLAST hp hq hw
      go_wp2
      go_meet
      exact ⟨u, rfl, HQ.out, hbf⟩
  case rest =>
    obtain ⟨u, rfl, hp, hb⟩ := hcut
    obtain ⟨ao, b, off, cap, rfl, h1, h2⟩ := hp
    obtain ⟨rfl, h3, h4⟩ := h1 (by simp)
    obtain ⟨h5, h6⟩ := h2 0 _ rfl
    simp only [Nat.zero_mul, Nat.add_zero] at h5 h6
    clear HSET HASK HLAST
    go_wp2
    go_returns
    exact ⟨rfl, hb⟩
end Go.Proofs.YtcofblepdfjhjaaDoor

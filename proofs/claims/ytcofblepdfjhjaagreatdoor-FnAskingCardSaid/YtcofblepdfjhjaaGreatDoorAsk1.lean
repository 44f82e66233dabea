/- What asking leaves of a key's entries; the list of those that are sent. -/
import Derived.Test.YtcofblepdfjhjaaGreatDoorModel
namespace Go.Proofs.YtcofblepdfjhjaaGreatDoor
open Go.RowKit Go.Sort
/-- The entries in the midst of a round: what has not come yet stands as it was. -/
def part (now : Int) (S : ByteArray → Option Ent) (left : ByteArray → Bool) : ByteArray → Option Ent := fun id => if left id = true then S id else keep now (S id)
/-- The entries gathered so far. -/
structure Gath (S : ByteArray → Option Ent) (now : Int) (https : Bool) (host path : ByteArray) (left : ByteArray → Bool) (L : List Ent) : Prop where
  mem : ∀ e, e ∈ L ↔ ∃ id, left id = false ∧ S id = some e ∧ aliveE now e = true ∧ sendB e https host path = true
  nd : (L.map (·.seq)).Nodup
def less (left : ByteArray → Bool) (s : ByteArray) : ByteArray → Bool := fun x => left x && decide (x ≠ s)
section
variable {S : ByteArray → Option Ent} {now : Int} {https : Bool} {host path : ByteArray} {left : ByteArray → Bool} {L : List Ent} {n : Nat} {M : ByteArray → Option Value}
theorem part_start (h : EntMap M S) : EntMap M (part now S fun s => (M s).isSome) := fun id => by
  have hh : part now S (fun s => (M s).isSome) id = S id := by
    unfold part
    split
    · rfl
    · rename_i hn
      have hM : M id = none := by cases hM : M id with
        | none => rfl
        | some v => exact absurd (show (M id).isSome = true by rw [hM]; rfl) hn
      have hS : S id = none := by cases hS : S id with
        | none => rfl
        | some e => obtain ⟨la, hla⟩ := (h id).2 e hS; rw [hM] at hla; cases hla
      rw [hS]; rfl
  rw [hh]; exact h id
theorem Gath.start (h : EntMap M S) : Gath S now https host path (fun s => (M s).isSome) [] := by
  refine ⟨fun e => ⟨fun h => (by cases h), ?_⟩, List.nodup_nil⟩
  rintro ⟨id, h1, h2, _⟩
  obtain ⟨la, hla⟩ := (h id).2 e h2
  rw [hla] at h1; cases h1
theorem part_less (s : ByteArray) : part now S (less left s) = updS (part now S left) s (keep now (S s)) := by
  funext id
  unfold part less updS
  by_cases h : id = s
  · subst h; simp
  · simp [h]
theorem part_end (h : ∀ s, left s = false) : part now S left = purge now S := by
  funext id
  unfold part purge
  rw [h id]; rfl
theorem part_at {s : ByteArray} (h : left s = true) : part now S left s = S s := by unfold part; rw [if_pos h]
theorem part_dead {s : ByteArray} {e : Ent} (hs : S s = some e) (ha : aliveE now e = false) : part now S (less left s) = updS (part now S left) s none := by
  have hk : keep now (some e) = none := if_neg (by rw [ha]; simp)
  rw [part_less, hs, hk]
theorem part_live {s : ByteArray} {e : Ent} (hs : S s = some e) (ha : aliveE now e = true) : part now S (less left s) = updS (part now S left) s (some e) := by
  have hk : keep now (some e) = some e := if_pos ha
  rw [part_less, hs, hk]
theorem updS_self {S : ByteArray → Option Ent} {s : ByteArray} {o : Option Ent} (h : S s = o) : updS S s o = S := by
  funext id
  unfold updS
  split
  · rename_i e; rw [e, h]
  · rfl
theorem less_false {s id : ByteArray} : less left s id = false ↔ left id = false ∨ id = s := by
  unfold less
  by_cases h : id = s <;> simp [h]
theorem Gath.skip (h : Gath S now https host path left L) {s : ByteArray} {e : Ent} (hs : S s = some e) (hn : (aliveE now e && sendB e https host path) = false) : Gath S now https host path (less left s) L := by
  refine ⟨fun x => (h.mem x).trans ⟨?_, ?_⟩, h.nd⟩
  · rintro ⟨id, h1, h2⟩
    exact ⟨id, less_false.2 (Or.inl h1), h2⟩
  · rintro ⟨id, h1, h2, h3, h4⟩
    rcases less_false.1 h1 with h1 | rfl
    · exact ⟨id, h1, h2, h3, h4⟩
    · rw [hs] at h2
      cases h2
      rw [h3, h4] at hn; cases hn
theorem Gath.take (h : Gath S now https host path left L) (hS : SOK S n) {s : ByteArray} {e : Ent} (hl : left s = true) (hs : S s = some e) (ha : aliveE now e = true) (hsd : sendB e https host path = true) : Gath S now https host path (less left s) (L ++ [e]) := by
  refine ⟨fun x => ?_, ?_⟩
  · rw [List.mem_append, h.mem x, List.mem_singleton]
    constructor
    · rintro (⟨id, h1, h2⟩ | rfl)
      · exact ⟨id, less_false.2 (Or.inl h1), h2⟩
      · exact ⟨s, less_false.2 (Or.inr rfl), hs, ha, hsd⟩
    · rintro ⟨id, h1, h2⟩
      rcases less_false.1 h1 with h1 | rfl
      · exact Or.inl ⟨id, h1, h2⟩
      · right; rw [hs] at h2; exact (Option.some.inj h2.1).symm
  · rw [List.map_append, List.nodup_append]
    refine ⟨h.nd, by simp, ?_⟩
    intro a ha' b hb
    simp only [List.map_cons, List.map_nil, List.mem_singleton] at hb
    subst hb
    obtain ⟨x, hx, rfl⟩ := List.mem_map.1 ha'
    obtain ⟨id, h1, h2, _⟩ := (h.mem x).1 hx
    intro hq
    have := (hS s e hs).2.2.2 id x h2 hq
    rw [this, hl] at h1; cases h1
theorem nodup_lt : ∀ (n : Nat) (l : List Nat), l.Nodup → (∀ x ∈ l, x < n) → l.length ≤ n
  | 0, [], _, _ => Nat.le_refl _
  | 0, x :: r, _, h => absurd (h x List.mem_cons_self) (by omega)
  | n + 1, l, hn, h => by
    have h1 := nodup_lt n (l.erase n) (hn.erase n) (fun x hx => by
      have hx' := hn.mem_erase_iff.1 hx
      have := h x hx'.2
      omega)
    have h2 : l.length ≤ (l.erase n).length + 1 := by
      by_cases hm : n ∈ l
      · rw [List.length_erase_of_mem hm]; omega
      · rw [List.erase_of_not_mem hm]; omega
    omega
theorem Gath.len (h : Gath S now https host path left L) (hS : SOK S n) : L.length ≤ n := by
  have := nodup_lt n (L.map (·.seq)) h.nd (fun x hx => by
    obtain ⟨e, he, rfl⟩ := List.mem_map.1 hx
    obtain ⟨id, _, h2, _⟩ := (h.mem e).1 he
    exact (hS id e h2).2.2.1)
  simpa using this
theorem Gath.fit (h : Gath S now https host path left L) (hS : SOK S n) : ∀ e ∈ L, EntFit e ∧ 0 < e.path.size := fun e he => by
  obtain ⟨id, _, h2, _⟩ := (h.mem e).1 he
  exact ⟨(hS id e h2).1, (hS id e h2).2.1⟩
/-- What is sorted is what is sent. -/
theorem Gath.sent (h : Gath S now https host path left L) (hl : ∀ s, left s = false) {L' : List Ent} (hp : L'.Perm L) (hs : L'.Pairwise fun x y => ltOf cmpE y x = false) : Sent S now https host path L' := by
  refine ⟨?_, fun e => ?_⟩
  · have hnd : (L'.map (·.seq)).Nodup := (hp.map (·.seq)).nodup_iff.2 h.nd
    rw [List.nodup_iff_pairwise_ne, List.pairwise_map] at hnd
    refine (hs.and hnd).imp ?_
    rintro x y ⟨h1, h2⟩
    have h1' : ¬ entLt y x := by rw [← cmpE_neg]; simpa [ltOf] using h1
    rcases entLt_split x y with h3 | h3 | h3
    · exact h3
    · exact absurd h3 h1'
    · exact absurd h3.2.2 h2
  · rw [hp.mem_iff, h.mem e]
    exact ⟨fun ⟨id, _, h2⟩ => ⟨id, h2⟩, fun ⟨id, h2⟩ => ⟨id, hl id, h2⟩⟩
end
end Go.Proofs.YtcofblepdfjhjaaGreatDoor

/- The arguments of a law, opened from what they read as. What all rows of this seat share: the listed variables, the witness's world, the end. -/
import Derived.Test.YtcofblepdfjhjaaGreatDoorW11
import Derived.ChangeSame
import Derived.ChangeVars
import Derived.RowKit
import Derived.OpenShut
import Derived.WideShapes
import Derived.ChangeArms
import Derived.ChangeMaps5
import Derived.Deep.Slices
import Derived.LaidLaws
import Derived.Test.YtcofblepdfjhjaaGreatDoorW28
import Derived.Test.YtcofblepdfjhjaaGreatDoorCards
import Derived.Test.YtcofblepdfjhjaaGreatDoorTie
import Derived.WalkKit
import Derived.ProofKit
import Derived.Deep.DeepHandedRow
import Derived.Deep.DeepWitnessRowRef
import Derived.Lay
import Derived.Carry
import Derived.MakeChecks
import Derived.LaidMore
import Derived.Stop.Joined
namespace Go.Proofs.YtcofblepdfjhjaaGreatDoor
open Go.ChangeShapes Go.WideShapes Go.RowKit Go.Deep
theorem cellsStr : Tryz.prog.cellsOf 9 = 1 := by kernel_rfl
theorem cellsInt : Tryz.prog.cellsOf 3 = 1 := by kernel_rfl
theorem cellsBool : Tryz.prog.cellsOf 4 = 1 := by kernel_rfl
theorem cellsAddress : Tryz.prog.cellsOf 25 = 3 := by kernel_rfl
theorem cellsCookie : Tryz.prog.cellsOf 47 = 7 := by kernel_rfl
theorem cellsStep : Tryz.prog.cellsOf 32 = 6 := by kernel_rfl
theorem cellsSlCookie : Tryz.prog.cellsOf 30 = 1 := by kernel_rfl
theorem fieldsAddress : ∃ fs, Tryz.prog.underlying 25 = some (.struct fs) ∧ fs.size = 3 ∧ fs[0]?.map (fun f => (f.type, f.offset)) = some (9, 0) ∧ fs[1]?.map (fun f => (f.type, f.offset)) = some (9, 1) ∧ fs[2]?.map (fun f => (f.type, f.offset)) = some (9, 2) :=
  ⟨_, Tryz.underlying25, rfl, rfl, rfl, rfl⟩
theorem fieldsCookie : ∃ fs, Tryz.prog.underlying 47 = some (.struct fs) ∧ fs.size = 7 ∧ fs[0]?.map (fun f => (f.type, f.offset)) = some (9, 0) ∧ fs[1]?.map (fun f => (f.type, f.offset)) = some (9, 1) ∧ fs[2]?.map (fun f => (f.type, f.offset)) = some (9, 2) ∧
    fs[3]?.map (fun f => (f.type, f.offset)) = some (9, 3) ∧ fs[4]?.map (fun f => (f.type, f.offset)) = some (3, 4) ∧ fs[5]?.map (fun f => (f.type, f.offset)) = some (3, 5) ∧ fs[6]?.map (fun f => (f.type, f.offset)) = some (4, 6) :=
  ⟨_, Tryz.underlying47, rfl, rfl, rfl, rfl, rfl, rfl, rfl, rfl⟩
theorem fieldsStep : ∃ fs, Tryz.prog.underlying 32 = some (.struct fs) ∧ fs.size = 4 ∧ fs[0]?.map (fun f => (f.type, f.offset)) = some (4, 0) ∧ fs[1]?.map (fun f => (f.type, f.offset)) = some (3, 1) ∧ fs[2]?.map (fun f => (f.type, f.offset)) = some (25, 2) ∧ fs[3]?.map (fun f => (f.type, f.offset)) = some (30, 5) :=
  ⟨_, Tryz.underlying32, rfl, rfl, rfl, rfl, rfl⟩
theorem list3 {α : Type} {l : List α} (h : l.length = 3) : ∃ a b c, l = [a, b, c] := by
  match l, h with
  | [a, b, c], _ => exact ⟨a, b, c, rfl⟩
theorem list4 {α : Type} {l : List α} (h : l.length = 4) : ∃ a b c d, l = [a, b, c, d] := by
  match l, h with
  | [a, b, c, d], _ => exact ⟨a, b, c, d, rfl⟩
theorem list6 {α : Type} {l : List α} (h : l.length = 6) : ∃ a b c d e f, l = [a, b, c, d, e, f] := by
  match l, h with
  | [a, b, c, d, e, f], _ => exact ⟨a, b, c, d, e, f, rfl⟩
theorem list7 {α : Type} {l : List α} (h : l.length = 7) : ∃ a b c d e f g, l = [a, b, c, d, e, f, g] := by
  match l, h with
  | [a, b, c, d, e, f, g], _ => exact ⟨a, b, c, d, e, f, g, rfl⟩
theorem maxLen63 : maxLen ≤ 9223372036854775807 := by unfold maxLen; omega
instance : Inhabited PCookie := ⟨⟨ByteArray.empty, ByteArray.empty, ByteArray.empty, ByteArray.empty, 0, 0, false⟩⟩
instance : Inhabited PStep := ⟨⟨false, 0, ByteArray.empty, ByteArray.empty, ByteArray.empty, []⟩⟩
section
variable {H : Type} {enc : TypeId × Value → H} {W : World} {base : Nat} {sp : Nat → Bool} {held : Bool}
theorem fld_at {fs : Array Field} {n : Nat} {cs : List Value} {xs : List (DataW H × List MemPlace)}
    (hf : ∀ (i : Nat) (f : Field), fs[i]? = some f → DataW.trod enc Tryz.prog W base sp held n f.type ((cs.drop f.offset).take (Tryz.prog.cellsOf f.type)) = xs[i]?)
    (i : Nat) {t : TypeId} {o k : Nat} (h : fs[i]?.map (fun f => (f.type, f.offset)) = some (t, o)) (hk : Tryz.prog.cellsOf t = k) : DataW.trod enc Tryz.prog W base sp held n t ((cs.drop o).take k) = xs[i]? := by
  cases hh : fs[i]? with
  | none => rw [hh] at h; cases h
  | some f =>
    rw [hh] at h
    simp only [Option.map_some, Option.some.injEq, Prod.mk.injEq] at h
    have := hf i f hh
    rw [h.1, h.2, hk] at this
    exact this
theorem rd_addr {fuel : Nat} {l : List Value} {x : DataW H × List MemPlace} (h : DataW.trod enc Tryz.prog W base sp held fuel 25 l = some x) :
    ∃ sc ho pa : ByteArray, l = [.string sc, .string ho, .string pa] ∧ sc.size ≤ maxLen ∧ ho.size ≤ maxLen ∧ pa.size ≤ maxLen := by
  obtain ⟨fs, hu, hfs, k0, k1, k2⟩ := fieldsAddress
  obtain ⟨xs, n, _, _, hl, hxl, hf⟩ := DataW.trod_struct hu h
  rw [cellsAddress] at hl
  rw [hfs] at hxl
  obtain ⟨a, b, c, rfl⟩ := list3 hl
  obtain ⟨y0, y1, y2, rfl⟩ := list3 hxl
  have h0 : DataW.trod enc Tryz.prog W base sp held n 9 [a] = some y0 := fld_at hf 0 k0 cellsStr
  have h1 : DataW.trod enc Tryz.prog W base sp held n 9 [b] = some y1 := fld_at hf 1 k1 cellsStr
  have h2 : DataW.trod enc Tryz.prog W base sp held n 9 [c] = some y2 := fld_at hf 2 k2 cellsStr
  obtain ⟨s0, e0, _, z0⟩ := DataW.trod_string Tryz.underlying9 h0
  obtain ⟨s1, e1, _, z1⟩ := DataW.trod_string Tryz.underlying9 h1
  obtain ⟨s2, e2, _, z2⟩ := DataW.trod_string Tryz.underlying9 h2
  cases e0
  cases e1
  cases e2
  exact ⟨s0, s1, s2, rfl, z0, z1, z2⟩
theorem rd_cookie {fuel : Nat} {l : List Value} {x : DataW H × List MemPlace} (h : DataW.trod enc Tryz.prog W base sp held fuel 47 l = some x) :
    ∃ c : PCookie, l = ckCells c ∧ CkLen c ∧ I64 c.maxAge ∧ I64 c.expires := by
  obtain ⟨fs, hu, hfs, k0, k1, k2, k3, k4, k5, k6⟩ := fieldsCookie
  obtain ⟨xs, n, _, _, hl, hxl, hf⟩ := DataW.trod_struct hu h
  rw [cellsCookie] at hl
  rw [hfs] at hxl
  obtain ⟨c0, c1, c2, c3, c4, c5, c6, rfl⟩ := list7 hl
  obtain ⟨y0, y1, y2, y3, y4, y5, y6, rfl⟩ := list7 hxl
  have h0 : DataW.trod enc Tryz.prog W base sp held n 9 [c0] = some y0 := fld_at hf 0 k0 cellsStr
  have h1 : DataW.trod enc Tryz.prog W base sp held n 9 [c1] = some y1 := fld_at hf 1 k1 cellsStr
  have h2 : DataW.trod enc Tryz.prog W base sp held n 9 [c2] = some y2 := fld_at hf 2 k2 cellsStr
  have h3 : DataW.trod enc Tryz.prog W base sp held n 9 [c3] = some y3 := fld_at hf 3 k3 cellsStr
  have h4 : DataW.trod enc Tryz.prog W base sp held n 3 [c4] = some y4 := fld_at hf 4 k4 cellsInt
  have h5 : DataW.trod enc Tryz.prog W base sp held n 3 [c5] = some y5 := fld_at hf 5 k5 cellsInt
  have h6 : DataW.trod enc Tryz.prog W base sp held n 4 [c6] = some y6 := fld_at hf 6 k6 cellsBool
  obtain ⟨s0, e0, _, z0⟩ := DataW.trod_string Tryz.underlying9 h0
  obtain ⟨s1, e1, _, z1⟩ := DataW.trod_string Tryz.underlying9 h1
  obtain ⟨s2, e2, _, z2⟩ := DataW.trod_string Tryz.underlying9 h2
  obtain ⟨s3, e3, _, z3⟩ := DataW.trod_string Tryz.underlying9 h3
  obtain ⟨s4, e4, _, z4⟩ := DataW.trod_int Tryz.underlying3 h4
  obtain ⟨s5, e5, _, z5⟩ := DataW.trod_int Tryz.underlying3 h5
  obtain ⟨s6, e6, _⟩ := DataW.trod_bool Tryz.underlying4 h6
  cases e0
  cases e1
  cases e2
  cases e3
  cases e4
  cases e5
  cases e6
  exact ⟨⟨s0, s1, s2, s3, s4, s5, s6⟩, rfl, ⟨Nat.le_trans z0 maxLen63, Nat.le_trans z1 maxLen63, Nat.le_trans z2 maxLen63, Nat.le_trans z3 maxLen63⟩, bounds_i64 z4, bounds_i64 z5⟩
/-- A slice, element by element. -/
theorem rd_slice {t e : TypeId} {sz fuel : Nat} {v : Value} {x : DataW H × List MemPlace} (ht : Tryz.prog.underlying t = some (.slice e)) (hce : Tryz.prog.cellsOf e = sz) (hs : 0 < sz) (h : DataW.trod enc Tryz.prog W base sp held fuel t [v] = some x) :
    ∃ ao len cap b off, v = .slice ao len cap ∧ (0 < len → ao = some ⟨b, off, none⟩ ∧ b < W.heap.size) ∧ len ≤ maxLen ∧
      ∀ i, i < len → ∃ cs' n y, RowAt W b (off + i * sz) cs' ∧ cs'.length = sz ∧ DataW.trod enc Tryz.prog W base sp held n e cs' = some y := by
  rcases open_slice ht h with ⟨h0, _⟩ | ⟨a, len, cap, m, n, D, Pl, h0, _, hl, hm, hmm, _, hx⟩
  · cases h0
    exact ⟨none, 0, 0, 0, 0, rfl, fun h => absurd h (by omega), by unfold maxLen; omega, fun i hi => absurd hi (by omega)⟩
  · cases h0
    obtain ⟨b, off, spot⟩ := a
    have hlm : len ≤ m := by rw [hmm]; split <;> omega
    rw [hce] at hx
    have hsp : 0 < len → spot = none ∧ b < W.heap.size := fun h => by
      obtain ⟨cs', h1, _⟩ := hx 0 (by omega)
      obtain ⟨_, hlen, hc⟩ := World.cells?_some h1
      have h2 := hc 0 hs
      rw [List.getElem?_eq_getElem (by omega)] at h2
      have e1 : ((⟨b, off, spot⟩ : Addr).add (0 * sz)).add 0 = ⟨b, off, spot⟩ := by simp [Addr.add]
      rw [e1] at h2
      refine ⟨World.cell?_spot h2, ?_⟩
      have h3 : ∃ o, W.heap[b]? = some o := by
        cases ho : W.heap[b]? with
        | none => simp [World.cell?, ho] at h2
        | some o => exact ⟨o, rfl⟩
      obtain ⟨o, ho⟩ := h3
      exact (Array.getElem?_eq_some_iff.1 ho).1
    refine ⟨_, len, cap, b, off, rfl, fun h => ⟨by rw [(hsp h).1], (hsp h).2⟩, by omega, fun i hi => ?_⟩
    obtain ⟨rfl, _⟩ := hsp (by omega)
    obtain ⟨cs', h1, h2⟩ := hx i (by omega)
    obtain ⟨_, hlen, hc⟩ := World.cells?_some h1
    refine ⟨cs', n, _, fun j u hj => ?_, hlen, h2⟩
    have h3 := hc j (by have := (List.getElem?_eq_some_iff.1 hj).1; omega)
    rw [add_plain, add_plain, hj] at h3
    exact h3
theorem rd_strs {fuel : Nat} {v : Value} {x : DataW H × List MemPlace} (h : DataW.trod enc Tryz.prog W base sp held fuel 22 [v] = some x) :
    ∃ ls : List ByteArray, StrsAt W W.heap.size v ls ∧ ls.length ≤ 9223372036854775807 ∧ ∀ y ∈ ls, y.size ≤ 9223372036854775807 := by
  obtain ⟨ao, len, cap, b, off, rfl, ha, hl, hc⟩ := rd_slice Tryz.underlying22 cellsStr (by omega) h
  obtain ⟨f, hf⟩ := choose_lt (n := len) (p := fun i (s : ByteArray) => W.cell? ⟨b, off + i * 1, none⟩ = some (.string s) ∧ s.size ≤ maxLen) (fun i hi => by
    obtain ⟨cs', n, y, h1, h2, h3⟩ := hc i hi
    obtain ⟨s, rfl, _, hz⟩ := DataW.trod_string Tryz.underlying9 h3
    exact ⟨s, by simpa using h1 0 _ rfl, hz⟩)
  have hle := maxLen63
  have hlen : ((List.range len).map f).length = len := by simp
  refine ⟨(List.range len).map f, ⟨ao, b, off, cap, by rw [hlen], fun h => ha (by omega), fun j hj => ?_⟩, by omega, fun y hy => ?_⟩
  · rw [hlen] at hj
    have e1 : ((List.range len).map f).getD j ByteArray.empty = f j := by simp [List.getD_eq_getElem?_getD, hj]
    intro i u hu
    rw [e1] at hu
    cases i with
    | zero => simp at hu; subst hu; exact (hf j hj).1
    | succ i => simp at hu
  · simp only [List.mem_map, List.mem_range] at hy
    obtain ⟨i, hi, rfl⟩ := hy
    exact Nat.le_trans (hf i hi).2 hle
theorem rd_cookies {fuel : Nat} {v : Value} {x : DataW H × List MemPlace} (h : DataW.trod enc Tryz.prog W base sp held fuel 30 [v] = some x) :
    ∃ cs : List PCookie, CookiesAt W W.heap.size v cs ∧ cs.length ≤ 9223372036854775807 ∧ ∀ c ∈ cs, CkLen c ∧ I64 c.maxAge ∧ I64 c.expires := by
  obtain ⟨ao, len, cap, b, off, rfl, ha, hl, hc⟩ := rd_slice Tryz.underlying30 cellsCookie (by omega) h
  obtain ⟨f, hf⟩ := choose_lt (n := len) (p := fun i (c : PCookie) => RowAt W b (off + i * 7) (ckCells c) ∧ CkLen c ∧ I64 c.maxAge ∧ I64 c.expires) (fun i hi => by
    obtain ⟨cs', n, y, h1, h2, h3⟩ := hc i hi
    obtain ⟨c, rfl, hz⟩ := rd_cookie h3
    exact ⟨c, h1, hz⟩)
  have hle := maxLen63
  have hlen : ((List.range len).map f).length = len := by simp
  refine ⟨(List.range len).map f, ⟨ao, b, off, cap, by rw [hlen], fun h => ha (by omega), fun j hj => ?_⟩, by omega, fun y hy => ?_⟩
  · rw [hlen] at hj
    have e1 : (((List.range len).map f)[j]?.map ckCells).getD [] = ckCells (f j) := by simp [hj]
    intro i u hu
    rw [e1] at hu
    exact (hf j hj).1 i u hu
  · simp only [List.mem_map, List.mem_range] at hy
    obtain ⟨i, hi, rfl⟩ := hy
    exact (hf i hi).2
def StWide (s : PStep) : Prop := StLen s ∧ I64 s.tm ∧ ∀ c ∈ s.cookies, I64 c.maxAge ∧ I64 c.expires
theorem rd_step {fuel : Nat} {l : List Value} {x : DataW H × List MemPlace} (h : DataW.trod enc Tryz.prog W base sp held fuel 32 l = some x) :
    ∃ (s : PStep) (v : Value), l = stCells s v ∧ CookiesAt W W.heap.size v s.cookies ∧ StWide s := by
  obtain ⟨fs, hu, hfs, k0, k1, k2, k3⟩ := fieldsStep
  obtain ⟨xs, n, _, _, hl, hxl, hf⟩ := DataW.trod_struct hu h
  rw [cellsStep] at hl
  rw [hfs] at hxl
  obtain ⟨c0, c1, c2, c3, c4, c5, rfl⟩ := list6 hl
  obtain ⟨y0, y1, y2, y3, rfl⟩ := list4 hxl
  have h0 : DataW.trod enc Tryz.prog W base sp held n 4 [c0] = some y0 := fld_at hf 0 k0 cellsBool
  have h1 : DataW.trod enc Tryz.prog W base sp held n 3 [c1] = some y1 := fld_at hf 1 k1 cellsInt
  have h2 : DataW.trod enc Tryz.prog W base sp held n 25 [c2, c3, c4] = some y2 := fld_at hf 2 k2 cellsAddress
  have h3 : DataW.trod enc Tryz.prog W base sp held n 30 [c5] = some y3 := fld_at hf 3 k3 cellsSlCookie
  obtain ⟨s0, e0, _⟩ := DataW.trod_bool Tryz.underlying4 h0
  obtain ⟨s1, e1, _, z1⟩ := DataW.trod_int Tryz.underlying3 h1
  obtain ⟨sc, ho, pa, e2, g0, g1, g2⟩ := rd_addr h2
  obtain ⟨cs, hcs, hcl, hcz⟩ := rd_cookies h3
  cases e0
  cases e1
  cases e2
  exact ⟨⟨s0, s1, sc, ho, pa, cs⟩, c5, rfl, hcs, ⟨Nat.le_trans g0 maxLen63, Nat.le_trans g1 maxLen63, Nat.le_trans g2 maxLen63, hcl, fun c hc => (hcz c hc).1⟩, bounds_i64 z1, fun c hc => (hcz c hc).2⟩
theorem rd_steps {fuel : Nat} {v : Value} {x : DataW H × List MemPlace} (h : DataW.trod enc Tryz.prog W base sp held fuel 23 [v] = some x) :
    ∃ ss : List PStep, StepsAt W W.heap.size v ss ∧ ss.length ≤ 9223372036854775807 ∧ ∀ s ∈ ss, StWide s := by
  obtain ⟨ao, len, cap, b, off, rfl, ha, hl, hc⟩ := rd_slice Tryz.underlying23 cellsStep (by omega) h
  have : Inhabited (PStep × Value) := ⟨default, .bool false⟩
  obtain ⟨f, hf⟩ := choose_lt (n := len) (p := fun i (c : PStep × Value) => RowAt W b (off + i * 6) (stCells c.1 c.2) ∧ CookiesAt W W.heap.size c.2 c.1.cookies ∧ StWide c.1) (fun i hi => by
    obtain ⟨cs', n, y, h1, h2, h3⟩ := hc i hi
    obtain ⟨s, u, rfl, hz⟩ := rd_step h3
    exact ⟨(s, u), h1, hz⟩)
  have hle := maxLen63
  have hlen : ((List.range len).map fun i => (f i).1).length = len := by simp
  refine ⟨(List.range len).map fun i => (f i).1, ⟨fun i => (f i).2, ⟨ao, b, off, cap, by rw [hlen], fun h => ha (by omega), fun j hj => ?_⟩, fun j s hj => ?_⟩, by omega, fun y hy => ?_⟩
  · rw [hlen] at hj
    have e1 : (((List.range len).map fun i => (f i).1)[j]?.map fun s => stCells s (f j).2).getD [] = stCells (f j).1 (f j).2 := by simp [hj]
    intro i u hu
    dsimp only at hu
    rw [e1] at hu
    exact (hf j hj).1 i u hu
  · have hjl : j < len := by have := (List.getElem?_eq_some_iff.1 hj).1; omega
    have : s = (f j).1 := by
      rw [List.getElem?_map, List.getElem?_range hjl] at hj
      exact (Option.some.inj hj).symm
    subst this
    exact (hf j hjl).2.1
  · simp only [List.mem_map, List.mem_range] at hy
    obtain ⟨i, hi, rfl⟩ := hy
    exact (hf i hi).2.2
variable {r : Reach} {b0 : Nat} {v : Value} {d : DataW H} {p : List MemPlace}
set_option maxRecDepth 100000 in
theorem open_addr (hv : Value.okWide Tryz.prog W r b0 25 v) (h : DataW.Trod enc Tryz.prog W base sp held 25 v d p) :
    ∃ sc ho pa : ByteArray, v = .agg #[.string sc, .string ho, .string pa] ∧ sc.size ≤ 9223372036854775807 ∧ ho.size ≤ 9223372036854775807 ∧ pa.size ≤ 9223372036854775807 := by
  obtain ⟨cs, rfl, _⟩ := okWide_struct (P := Tryz.prog) (w := W) (r := r) (base := b0) (v := v) Tryz.underlying25 hv
  obtain ⟨fuel, hf⟩ := h
  obtain ⟨sc, ho, pa, e, z0, z1, z2⟩ := rd_addr hf
  have e' : cs = #[.string sc, .string ho, .string pa] := Array.toList_inj.1 (show cs.toList = _ from e)
  subst e'
  exact ⟨sc, ho, pa, rfl, Nat.le_trans z0 maxLen63, Nat.le_trans z1 maxLen63, Nat.le_trans z2 maxLen63⟩
set_option maxRecDepth 100000 in
theorem open_cookie (hv : Value.okWide Tryz.prog W r b0 47 v) (h : DataW.Trod enc Tryz.prog W base sp held 47 v d p) :
    ∃ c : PCookie, v = .agg (ckCells c).toArray ∧ CkLen c ∧ I64 c.maxAge ∧ I64 c.expires := by
  obtain ⟨cs, rfl, _⟩ := okWide_struct (P := Tryz.prog) (w := W) (r := r) (base := b0) (v := v) Tryz.underlying47 hv
  obtain ⟨fuel, hf⟩ := h
  obtain ⟨c, e, z⟩ := rd_cookie hf
  have e' : cs = (ckCells c).toArray := Array.toList_inj.1 (show cs.toList = _ from e)
  subst e'
  exact ⟨c, rfl, z⟩
set_option maxRecDepth 100000 in
theorem open_strs (hv : Value.okWide Tryz.prog W r b0 22 v) (h : DataW.Trod enc Tryz.prog W base sp held 22 v d p) :
    ∃ ls : List ByteArray, StrsAt W W.heap.size v ls ∧ ls.length ≤ 9223372036854775807 ∧ ∀ y ∈ ls, y.size ≤ 9223372036854775807 := by
  obtain ⟨a, len, cap, rfl⟩ := okWide_slice (P := Tryz.prog) (w := W) (r := r) (base := b0) (v := v) Tryz.underlying22 hv
  obtain ⟨fuel, hf⟩ := h
  exact rd_strs hf
set_option maxRecDepth 100000 in
theorem open_steps_ok (hv : Value.okWide Tryz.prog W r b0 23 v) (h : DataW.Trod enc Tryz.prog W base sp held 23 v d p) : v = .slice none 0 0 ∨ ∃ a n cap, v = .slice (some a) n cap ∧ n ≤ cap := by
  obtain ⟨a, len, cap, rfl⟩ := okWide_slice (P := Tryz.prog) (w := W) (r := r) (base := b0) (v := v) Tryz.underlying23 hv
  obtain ⟨fuel, hf⟩ := h
  rcases open_slice Tryz.underlying23 hf with ⟨h0, _⟩ | ⟨a', len', cap', m, n, D, Pl, h0, _, hl, _⟩
  · exact Or.inl (List.cons.inj h0).1
  · exact Or.inr ⟨a', len', cap', (List.cons.inj h0).1, hl⟩
set_option maxRecDepth 100000 in
theorem open_steps (hv : Value.okWide Tryz.prog W r b0 23 v) (h : DataW.Trod enc Tryz.prog W base sp held 23 v d p) :
    ∃ ss : List PStep, StepsAt W W.heap.size v ss ∧ ss.length ≤ 9223372036854775807 ∧ ∀ s ∈ ss, StWide s := by
  obtain ⟨a, len, cap, rfl⟩ := okWide_slice (P := Tryz.prog) (w := W) (r := r) (base := b0) (v := v) Tryz.underlying23 hv
  obtain ⟨fuel, hf⟩ := h
  exact rd_steps hf
end
end Go.Proofs.YtcofblepdfjhjaaGreatDoor
namespace Go.Proofs.YtcofblepdfjhjaaGreatDoor
open Go.ChangeShapes Go.WideShapes Go.ChangeAt Go.RowKit
theorem ownOff : ownKnob Tryz.prog.godebug = none := by kernel_rfl
theorem outOK : laidOutB Tryz.prog = true := by kernel_rfl
def laidL : List (String × DataW Unit) := [("pub-cookiejars/pub/cookiejar.errIllegalDomain", Rows.laid_pub_cookiejars_pub_cookiejar_errIllegalDomain), ("pub-cookiejars/pub/cookiejar.errMalformedDomain", Rows.laid_pub_cookiejars_pub_cookiejar_errMalformedDomain)]
theorem gIll : Tryz.prog.globalNamed "pub-cookiejars/pub/cookiejar.errIllegalDomain" = some 0 := by kernel_rfl
theorem tIll : (Tryz.prog.globals[0]?).map (·.type) = some 69 := by kernel_rfl
theorem base_of_laid {W : World} (h : laidMetH Tryz.prog laidL W) : Base W := by
  rw [MakeChecks.laidMetH_plain _ _ _ (by kernel_rfl)] at h
  obtain ⟨ps, hv, _, _⟩ := h
  obtain ⟨g, t, cs, fuel, p, q, hg, ht, hcs, htr, _, _⟩ := hv
  obtain rfl := Option.some.inj (gIll.symm.trans hg)
  obtain rfl := Option.some.inj (tIll.symm.trans ht)
  obtain ⟨_, u, pv, hcs', _, _⟩ := iface_of_trod Tryz.underlying69 htr
  have hc := World.var?_cell hg hcs 0
  rw [Array.eq_one_of_toList hcs'] at hc
  have hc' : W.cell? ⟨0, 0, none⟩ = some (.iface u pv) := hc
  refine ⟨?_, u, pv, hc'⟩
  rcases Nat.eq_zero_or_pos W.heap.size with h0 | h0
  · have : W.heap[0]? = none := by simp [h0]
    unfold World.cell? at hc'
    rw [this] at hc'
    cases hc'
  · exact h0
/-- The witness's world. -/
noncomputable def lw (os : Os) : World := World.laidAll Tryz.prog os laidL
theorem lw_met (os : Os) (args : Array Value) : laidMet Tryz.prog laidL ((lw os).forCall (fun _ _ => 0) ⟨#[], args, []⟩).memory := laidMet_laidAll _ (by kernel_rfl) (by kernel_rfl)
section
variable {H : Type} {enc : TypeId × Value → H} {W W' : World}
theorem trodAll_below (hb : Below W.heap.size W W') : ∀ {ts : List TypeId} {vs : List Value} {ds : List (DataW H)} {ps : List MemPlace}, (∀ t ∈ ts, Tryz.prog.readableRec t = true ∧ t < Tryz.prog.types.size) →
    DataW.TrodAll enc Tryz.prog W 0 (fun _ => true) true ts vs ds ps → (∀ x ∈ ps, x.block < W.heap.size) → DataW.TrodAll enc Tryz.prog W' 0 (fun b => decide (b < W.heap.size)) true ts vs ds ps
  | [], vs, ds, ps, _, h, _ => by
    obtain ⟨rfl, rfl, rfl⟩ := trodAll_nil h
    exact trodAll_mk0
  | t :: ts, vs, ds, ps, ht, h, hlt => by
    obtain ⟨v, vs', d, ds', p, q, rfl, rfl, rfl, h1, h2⟩ := trodAll_cons h
    obtain ⟨r1, r2⟩ := ht t List.mem_cons_self
    exact trodAll_cons_mk (Below.trod outOK r1 r2 h1 hb fun x hx => hlt x (List.mem_append_left _ hx)) (trodAll_below hb (fun t' h' => ht t' (List.mem_cons_of_mem _ h')) h2 fun x hx => hlt x (List.mem_append_right _ hx))
theorem fin_post {f : Func} {s : ChangeSpec} {args : Array Value} {ds : List (DataW H)} {before : List MemPlace} (hv0 : s.vars = []) (hW : DataW.Whole enc Tryz.prog f.params.toList s.vars false W args.toList ds [] before)
    (hs1 : (s.fn H (ds ++ [])).results = [.lit (.bool true)]) (hs2 : (s.fn H (ds ++ [])).args = ds) (hs3 : (s.fn H (ds ++ [])).vars = []) (hr : f.resultTypes = #[4])
    (hp : ∀ t ∈ f.params.toList, Tryz.prog.readableRec t = true ∧ t < Tryz.prog.types.size) (hb : Below W.heap.size W W') : s.post enc Tryz.prog f false true false false W args (.bool true) W' := by
  have hW' := hW
  obtain ⟨p, q, hA, hV, rfl, _, _⟩ := hW
  rw [hv0] at hV
  obtain ⟨_, rfl⟩ := trodVars_none hV
  have hlt : ∀ x ∈ p, x.block < W.heap.size := fun x hx => by simpa using hW'.lt x (List.mem_append_left _ hx)
  refine ⟨ds, [], p ++ [], [], p, [], hW', ?_, ?_, ?_, hb.frame _, fun h => by cases h⟩
  · rw [hs1, hr]
    exact trodAll_mk1 (shut_bool Tryz.underlying4 _)
  · rw [hs2]
    exact trodAll_below hb hp hA hlt
  · rw [hs3, hv0]
    rfl
end
end Go.Proofs.YtcofblepdfjhjaaGreatDoor

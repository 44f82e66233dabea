/- Plain lemmas: the reader of IPv4 addresses against the reference's test; the last label; what a valid host is not. The reference's public suffix, and its test of two hosts. Plain lemmas: the reference's public suffix is the list's; hosts that are apart have different keys. Walks: the reference's public suffix, its test of a domain, its test of two hosts. Walks: the reference's test of a domain; its test of two hosts. -/
import Derived.Test.YtcofblepdfjhjaaDoorPlainD
import Derived.Test.YtcofblepdfjhjaaDoorLawsB
import Derived.Test.YtcofblepdfjhjaaDoorW19
import Derived.Deep.Cut
namespace Go.Proofs.YtcofblepdfjhjaaDoor
def valOf (l : List UInt8) : Int := l.foldl (fun v x => v * 10 + ((x.toNat : Int) - 48)) 0
theorem valOf_snoc (l : List UInt8) (x : UInt8) : valOf (l ++ [x]) = valOf l * 10 + ((x.toNat : Int) - 48) := by simp [valOf]
def okPart (l : List UInt8) : Prop := l = [] ∨ addrLab l = true
theorem dig_of {x : UInt8} (h : digCh x) : ∃ i : Fin 10, x = UInt8.ofNat (48 + i.val) := by
  unfold digCh at h
  refine ⟨⟨x.toNat - 48, by omega⟩, ?_⟩
  apply UInt8.toNat_inj.1
  simp
  omega
theorem part1 : ∀ i : Fin 10, addrLab [UInt8.ofNat (48 + i.val)] = true := by decide +kernel
theorem part2 : ∀ i j : Fin 10, addrLab [UInt8.ofNat (48 + i.val), UInt8.ofNat (48 + j.val)] = decide (i ≠ 0) := by decide +kernel
theorem part3 : ∀ i j k : Fin 10, addrLab [UInt8.ofNat (48 + i.val), UInt8.ofNat (48 + j.val), UInt8.ofNat (48 + k.val)] = decide (i ≠ 0 ∧ i.val * 100 + j.val * 10 + k.val ≤ 255) := by decide +kernel
theorem toNat_dig (i : Fin 10) : ((UInt8.ofNat (48 + i.val)).toNat : Int) = 48 + (i.val : Int) := by
  have : (UInt8.ofNat (48 + i.val)).toNat = 48 + i.val := by simp; omega
  omega
theorem addrLab_dig {l : List UInt8} (h : addrLab l = true) : ∀ x ∈ l, digCh x := by
  unfold addrLab digB at h
  simp only [Bool.and_eq_true] at h
  exact allDig_mem l h.1.1
theorem addrLab_len {l : List UInt8} (h : addrLab l = true) : 0 < l.length ∧ l.length ≤ 3 := by
  unfold addrLab digB at h
  simp only [Bool.and_eq_true, Bool.not_eq_true', Bool.or_eq_false_iff, decide_eq_false_iff_not, decide_eq_true_eq] at h
  refine ⟨List.length_pos_iff.2 h.1.2.1, by omega⟩
theorem addrLab_long {l : List UInt8} (h : 3 < l.length) : addrLab l = false := by
  cases hb : addrLab l
  · rfl
  · have := (addrLab_len hb).2; omega
/-- One digit more. -/
theorem part_ext {cur : List UInt8} {x : UInt8} (hc : okPart cur) (hx : digCh x) : addrLab (cur ++ [x]) = decide (¬ ((cur.length : Int) = 1 ∧ valOf cur = 0) ∧ valOf cur * 10 + ((x.toNat : Int) - 48) ≤ 255) := by
  obtain ⟨k, rfl⟩ := dig_of hx
  rw [toNat_dig]
  rcases hc with rfl | hc
  · rw [List.nil_append, part1]
    exact (decide_eq_true ⟨by simp, by simp [valOf]; omega⟩).symm
  · have hd := addrLab_dig hc
    have hl := addrLab_len hc
    match cur, hl with
    | [a], _ =>
      obtain ⟨i, rfl⟩ := dig_of (hd a (by simp))
      rw [List.singleton_append, part2]
      simp only [valOf, List.foldl, toNat_dig, List.length_singleton]
      apply decide_eq_decide.2
      constructor
      · intro h
        have : i.val ≠ 0 := fun e => h (Fin.ext e)
        omega
      · intro h e
        subst e
        exact h.1 ⟨by simp, by simp⟩
    | [a, b], _ =>
      obtain ⟨i, rfl⟩ := dig_of (hd a (by simp))
      obtain ⟨j, rfl⟩ := dig_of (hd b (by simp))
      rw [part2] at hc
      have hi : i.val ≠ 0 := fun e => (of_decide_eq_true hc) (Fin.ext e)
      rw [show [UInt8.ofNat (48 + i.val), UInt8.ofNat (48 + j.val)] ++ [UInt8.ofNat (48 + k.val)] = [UInt8.ofNat (48 + i.val), UInt8.ofNat (48 + j.val), UInt8.ofNat (48 + k.val)] from rfl, part3]
      simp only [valOf, List.foldl, toNat_dig, List.length_cons, List.length_nil]
      apply decide_eq_decide.2
      constructor
      · intro h
        omega
      · intro h
        exact ⟨fun e => hi (by rw [e]; rfl), by omega⟩
    | [a, b, c], _ =>
      obtain ⟨i, rfl⟩ := dig_of (hd a (by simp))
      obtain ⟨j, rfl⟩ := dig_of (hd b (by simp))
      obtain ⟨m, rfl⟩ := dig_of (hd c (by simp))
      rw [part3] at hc
      have hi : i.val ≠ 0 := fun e => (of_decide_eq_true hc).1 (Fin.ext e)
      rw [addrLab_long (by simp)]
      simp only [valOf, List.foldl, toNat_dig]
      exact (decide_eq_false (by omega)).symm
/-- What begins an address's label is one. -/
theorem addrLab_head {u t : List UInt8} (h : addrLab (u ++ t) = true) : okPart u := by
  have hd := addrLab_dig h
  have hl := addrLab_len h
  rw [List.length_append] at hl
  match u, t with
  | [], _ => exact Or.inl rfl
  | _, [] => rw [List.append_nil] at h; exact Or.inr h
  | [a], _ :: _ =>
    obtain ⟨i, rfl⟩ := dig_of (hd a (by simp))
    exact Or.inr (part1 i)
  | [a, b], [c] =>
    obtain ⟨i, rfl⟩ := dig_of (hd a (by simp))
    obtain ⟨j, rfl⟩ := dig_of (hd b (by simp))
    obtain ⟨k, rfl⟩ := dig_of (hd c (by simp))
    have e : addrLab [UInt8.ofNat (48 + i.val), UInt8.ofNat (48 + j.val), UInt8.ofNat (48 + k.val)] = true := h
    rw [part3] at e
    refine Or.inr ?_
    rw [part2]
    exact decide_eq_true (of_decide_eq_true e).1
  | [_, _], _ :: _ :: _ => simp at hl; omega
  | _ :: _ :: _ :: _, _ :: _ => simp at hl; omega
theorem okPart_snoc {cur : List UInt8} {x : UInt8} (hc : okPart cur) (hx : digCh x) : okPart (cur ++ [x]) ↔ (¬ ((cur.length : Int) = 1 ∧ valOf cur = 0) ∧ valOf cur * 10 + ((x.toNat : Int) - 48) ≤ 255) := by
  unfold okPart
  rw [part_ext hc hx]
  constructor
  · rintro (h | h)
    · simp at h
    · exact of_decide_eq_true h
  · intro h
    exact Or.inr (decide_eq_true h)
theorem labels_bad {cur l : List UInt8} (h : ¬ okPart cur) : (labelsGo cur l).all addrLab = false := by
  obtain ⟨t, L, e⟩ := labelsGo_head l cur
  rw [e, List.all_cons]
  cases hb : addrLab (cur ++ t)
  · rfl
  · exact absurd (addrLab_head hb) h
theorem addrLab_nil : addrLab [] = false := by decide
theorem ip4_labels : ∀ (l cur : List UInt8) (p first : Int), okPart cur → 0 ≤ p → p ≤ 3 →
    (ip4Go (valOf cur) p cur.length first l).2 = ((labelsGo cur l).all addrLab && decide (((labelsGo cur l).length : Int) = 4 - p))
  | [], cur, p, first, hc, h0, h3 => by
    rw [ip4Go, labelsGo]
    simp only [List.all_cons, List.all_nil, Bool.and_true, List.length_singleton]
    rcases hc with rfl | hc
    · rw [addrLab_nil]; simp
    · rw [hc, Bool.true_and]
      have := (addrLab_len hc).1
      apply decide_eq_decide.2
      constructor <;> intro h <;> omega
  | x :: r, cur, p, first, hc, h0, h3 => by
    rw [ip4Go, labelsGo]
    by_cases hd : 48 ≤ (x.toNat : Int) ∧ (x.toNat : Int) ≤ 57
    · rw [if_pos hd, if_neg (by omega : ¬ (x.toNat : Int) = 46)]
      have hs := okPart_snoc hc (x := x) hd
      by_cases h1 : (cur.length : Int) = 1 ∧ valOf cur = 0
      · rw [if_pos h1, labels_bad (fun h => (hs.1 h).1 h1), Bool.false_and]
      · rw [if_neg h1]
        by_cases h2 : 255 < valOf cur * 10 + ((x.toNat : Int) - 48)
        · rw [if_pos h2, labels_bad (fun h => by have := (hs.1 h).2; omega), Bool.false_and]
        · rw [if_neg h2]
          have := ip4_labels r (cur ++ [x]) p first (hs.2 ⟨h1, by omega⟩) h0 h3
          rw [valOf_snoc, List.length_append, List.length_singleton] at this
          exact this
    · rw [if_neg hd]
      by_cases h46 : (x.toNat : Int) = 46
      · rw [if_pos h46, if_pos h46]
        by_cases hb : (cur.length : Int) = 0 ∨ r = [] ∨ p = 3
        · rw [if_pos hb]
          symm
          rcases hb with hb | rfl | rfl
          · have : cur = [] := List.length_eq_zero_iff.1 (by omega)
            subst this
            rw [List.all_cons, addrLab_nil]; rfl
          · simp [labelsGo, addrLab_nil]
          · have : 0 < (labelsGo [] r).length := List.length_pos_iff.2 (labelsGo_ne r [])
            rw [decide_eq_false (by rw [List.length_cons]; omega), Bool.and_false]
        · rw [if_neg hb]
          have h0' : okPart ([] : List UInt8) := Or.inl rfl
          have := ip4_labels r [] (p + 1) (if p = 0 then valOf cur else first) h0' (by omega) (by omega)
          have e : (ip4Go 0 (p + 1) 0 (if p = 0 then valOf cur else first) r) = ip4Go (valOf []) (p + 1) (([] : List UInt8).length : Int) (if p = 0 then valOf cur else first) r := rfl
          rw [e, this, List.all_cons, List.length_cons]
          rcases hc with rfl | hc
          · simp at hb
          · rw [hc, Bool.true_and]
            congr 1
            apply decide_eq_decide.2
            constructor <;> intro h <;> omega
      · rw [if_neg h46, if_neg h46, labels_bad ?_, Bool.false_and]
        rintro (h | h)
        · simp at h
        · have := addrLab_dig h x (by simp)
          unfold digCh at this
          exact hd this
theorem ip4_addr (l : List UInt8) : (ip4 l).2 = isAddrB l := by
  have := ip4_labels l [] 0 0 (Or.inl rfl) (by omega) (by omega)
  have e : ip4 l = ip4Go (valOf []) 0 (([] : List UInt8).length : Int) 0 l := rfl
  rw [e, this]
  unfold isAddrB labels
  congr 1
  apply decide_eq_decide.2
  constructor <;> intro h <;> omega
theorem ip4_first : ∀ (l cur : List UInt8) (p first : Int), (ip4Go (valOf cur) p cur.length first l).2 = true → 0 ≤ p →
    (ip4Go (valOf cur) p cur.length first l).1 = if p = 0 then valOf ((labelsGo cur l).getD 0 []) else first
  | [], cur, p, first, h, h0 => by
    rw [ip4Go] at h ⊢
    have := of_decide_eq_true h
    rw [if_neg (by omega)]
  | x :: r, cur, p, first, h, h0 => by
    rw [ip4Go] at h ⊢
    rw [labelsGo]
    by_cases hd : 48 ≤ (x.toNat : Int) ∧ (x.toNat : Int) ≤ 57
    · rw [if_pos hd] at h ⊢
      rw [if_neg (by omega : ¬ (x.toNat : Int) = 46)]
      by_cases h1 : (cur.length : Int) = 1 ∧ valOf cur = 0
      · rw [if_pos h1] at h; cases h
      · rw [if_neg h1] at h ⊢
        by_cases h2 : 255 < valOf cur * 10 + ((x.toNat : Int) - 48)
        · rw [if_pos h2] at h; cases h
        · rw [if_neg h2] at h ⊢
          have := ip4_first r (cur ++ [x]) p first
          rw [valOf_snoc, List.length_append, List.length_singleton] at this
          exact this h h0
    · rw [if_neg hd] at h ⊢
      by_cases h46 : (x.toNat : Int) = 46
      · rw [if_pos h46] at h ⊢
        by_cases hb : (cur.length : Int) = 0 ∨ r = [] ∨ p = 3
        · rw [if_pos hb] at h; cases h
        · rw [if_neg hb] at h ⊢
          rw [if_pos h46]
          have := ip4_first r [] (p + 1) (if p = 0 then valOf cur else first) h (by omega)
          have e : (ip4Go 0 (p + 1) 0 (if p = 0 then valOf cur else first) r) = ip4Go (valOf []) (p + 1) (([] : List UInt8).length : Int) (if p = 0 then valOf cur else first) r := rfl
          rw [e, this, if_neg (by omega)]
          rfl
      · rw [if_neg h46] at h; cases h
theorem val127 {l : List UInt8} (h : addrLab l = true) (hv : valOf l = 127) : l = [49, 50, 55] := by
  have hd := addrLab_dig h
  have hl := addrLab_len h
  match l, hl with
  | [a], _ =>
    obtain ⟨i, rfl⟩ := dig_of (hd a (by simp))
    simp only [valOf, List.foldl, toNat_dig] at hv
    omega
  | [a, b], _ =>
    obtain ⟨i, rfl⟩ := dig_of (hd a (by simp))
    obtain ⟨j, rfl⟩ := dig_of (hd b (by simp))
    simp only [valOf, List.foldl, toNat_dig] at hv
    omega
  | [a, b, c], _ =>
    obtain ⟨i, rfl⟩ := dig_of (hd a (by simp))
    obtain ⟨j, rfl⟩ := dig_of (hd b (by simp))
    obtain ⟨k, rfl⟩ := dig_of (hd c (by simp))
    simp only [valOf, List.foldl, toNat_dig] at hv
    have e1 : i = 1 := Fin.ext (by show i.val = 1; omega)
    have e2 : j = 2 := Fin.ext (by show j.val = 2; omega)
    have e3 : k = 7 := Fin.ext (by show k.val = 7; omega)
    subst e1 e2 e3
    rfl
theorem ip4_127 {l : List UInt8} (h : (ip4 l).2 = true) (hv : (ip4 l).1 = 127) : (labels l).getD 0 [] = [49, 50, 55] := by
  have e : ip4 l = ip4Go (valOf []) 0 (([] : List UInt8).length : Int) 0 l := rfl
  rw [e] at h hv
  rw [ip4_first l [] 0 0 h (by omega), if_pos rfl] at hv
  rw [← e, ip4_addr] at h
  unfold isAddrB at h
  rw [Bool.and_eq_true] at h
  have hne := labels_ne l
  refine val127 ?_ hv
  unfold labels at h hne ⊢
  cases hL : labelsGo [] l with
  | nil => exact absurd hL hne
  | cons a L =>
    rw [hL] at h
    exact (Bool.and_eq_true _ _ ▸ h.1 : addrLab a = true ∧ _).1
/-! The last label. -/
theorem labelsGo_last_eq : ∀ (l cur : List UInt8), (∀ x ∈ cur, (x.toNat : Int) ≠ 46) → (labelsGo cur l).getD ((labelsGo cur l).length - 1) [] = (cur ++ l).drop (lastIdx 46 (cur ++ l) + 1).toNat
  | [], cur, hc => by
    rw [labelsGo, List.append_nil, lastIdx_none hc]
    simp
  | x :: r, cur, hc => by
    rw [labelsGo]
    by_cases h46 : (x.toNat : Int) = 46
    · rw [if_pos h46]
      have ih := labelsGo_last_eq r [] (fun x hx => by cases hx)
      rw [List.nil_append] at ih
      have hne : labelsGo [] r ≠ [] := labelsGo_ne r []
      have hp : 0 < (labelsGo [] r).length := List.length_pos_iff.2 hne
      have e1 : (cur :: labelsGo [] r).getD ((cur :: labelsGo [] r).length - 1) [] = (labelsGo [] r).getD ((labelsGo [] r).length - 1) [] := by
        rw [List.length_cons, Nat.add_sub_cancel, List.getD_eq_getElem?_getD, List.getD_eq_getElem?_getD]
        obtain ⟨m, hm⟩ : ∃ m, (labelsGo [] r).length = m + 1 := ⟨(labelsGo [] r).length - 1, by omega⟩
        rw [hm, List.getElem?_cons_succ, Nat.add_sub_cancel]
      rw [e1, ih]
      rcases last_cases 46 r with hn | ⟨a, y, b, rfl, hy, hb⟩
      · rw [lastIdx_none hn, lastIdx_at h46 hn]
        have : ((cur.length : Int) + 1).toNat = cur.length + 1 := by omega
        rw [this, show cur ++ x :: r = (cur ++ [x]) ++ r by simp, List.drop_left' (by simp)]
        rfl
      · have e2 : cur ++ x :: (a ++ y :: b) = (cur ++ x :: a) ++ y :: b := by simp
        rw [lastIdx_at hy hb, e2, lastIdx_at hy hb]
        have t1 : ((a.length : Int) + 1).toNat = a.length + 1 := by omega
        have t2 : (((cur ++ x :: a).length : Int) + 1).toNat = (cur ++ x :: a).length + 1 := by omega
        rw [t1, t2, show a ++ y :: b = (a ++ [y]) ++ b by simp, show (cur ++ x :: a) ++ y :: b = ((cur ++ x :: a) ++ [y]) ++ b by simp, List.drop_left' (by simp), List.drop_left' (by simp; omega)]
    · rw [if_neg h46]
      have := labelsGo_last_eq r (cur ++ [x]) (fun y hy => by
        rcases List.mem_append.1 hy with h | h
        · exact hc y h
        · simp at h; subst h; exact h46)
      rw [List.append_assoc, List.singleton_append] at this
      exact this
theorem lastLab_eq (l : List UInt8) : lastLab l = l.drop (lastIdx 46 l + 1).toNat := labelsGo_last_eq l [] (fun x hx => by cases hx)
theorem afterDot_eq (d : ByteArray) : afterDot d = str (lastLab (lst d)) := by rw [lastLab_eq]; rfl
theorem lowC_46 (x : UInt8) : ((lowC x).toNat : Int) = 46 ↔ (x.toNat : Int) = 46 := by
  unfold lowC
  split
  · rename_i h
    have : (x + 32).toNat = x.toNat + 32 := by rw [UInt8.toNat_add]; simp; omega
    omega
  · rfl
theorem labelsGo_low : ∀ (l cur : List UInt8), labelsGo (low cur) (low l) = (labelsGo cur l).map low
  | [], cur => by simp [low, labelsGo]
  | x :: r, cur => by
    rw [show low (x :: r) = lowC x :: low r from rfl, labelsGo, labelsGo]
    by_cases h46 : (x.toNat : Int) = 46
    · rw [if_pos h46, if_pos ((lowC_46 x).2 h46), List.map_cons]
      have := labelsGo_low r []
      rw [show low [] = [] from rfl] at this
      rw [this]
    · rw [if_neg h46, if_neg (fun h => h46 ((lowC_46 x).1 h))]
      have := labelsGo_low r (cur ++ [x])
      rw [show low (cur ++ [x]) = low cur ++ [lowC x] by simp [low]] at this
      exact this
theorem labels_low (l : List UInt8) : labels (low l) = (labels l).map low := labelsGo_low l []
theorem lastLab_low (l : List UInt8) : lastLab (low l) = low (lastLab l) := by
  unfold lastLab
  rw [labels_low, List.length_map, List.getD_eq_getElem?_getD, List.getD_eq_getElem?_getD, List.getElem?_map]
  cases (labels l)[(labels l).length - 1]? <;> rfl
theorem lowC_dig {x : UInt8} (h : digCh (lowC x)) : lowC x = x := by
  unfold digCh lowC at *
  split at h
  · rename_i h'
    have : (x + 32).toNat = x.toNat + 32 := by rw [UInt8.toNat_add]; simp; omega
    omega
  · rename_i h'
    rw [if_neg h']
theorem low_dig {l : List UInt8} (h : ∀ x ∈ low l, digCh x) : low l = l := by
  unfold low at *
  conv => rhs; rw [← List.map_id l]
  exact List.map_congr_left fun x hx => lowC_dig (h _ (List.mem_map_of_mem hx))
theorem lowC_idem (x : UInt8) : lowC (lowC x) = lowC x := by
  unfold lowC
  split
  · rename_i h
    have : (x + 32).toNat = x.toNat + 32 := by rw [UInt8.toNat_add]; simp; omega
    rw [if_neg (by omega)]
  · rfl
theorem low_idem (l : List UInt8) : low (low l) = low l := by
  unfold low
  rw [List.map_map]
  exact List.map_congr_left fun x _ => lowC_idem x
/-- A valid host, in lower case, is near none. -/
theorem host_far {h : List UInt8} (H : isHostB h = true) : nearB (str (low h)) = false := by
  have hS := (host_signs H).1.low
  unfold isHostB at H
  simp only [Bool.and_eq_true, Bool.or_eq_true, Bool.not_eq_true'] at H
  obtain ⟨⟨_, h2⟩, h3⟩ := H
  unfold nearB
  rw [lst_str, Bool.or_eq_false_iff]
  refine ⟨?_, ?_⟩
  · unfold isLocB foldEq
    rw [lst_str, hS.trim]
    simp only []
    rw [← lastLab_eq, lst_str, lastLab_low, low_idem, Bool.and_eq_false_iff]
    refine Or.inr (decide_eq_false fun e => ?_)
    have e' := congrArg lst e
    rw [lst_str, lst_str] at e'
    rw [e'] at h2
    revert h2
    decide
  · cases h4 : (ip4 (low h)).2
    · rfl
    · rw [Bool.true_and]
      refine decide_eq_false fun e => ?_
      have e1 := ip4_127 h4 e
      rw [labels_low, List.getD_eq_getElem?_getD, List.getElem?_map] at e1
      have hlow : low ((labels h).getD 0 []) = [49, 50, 55] := by
        rw [List.getD_eq_getElem?_getD]
        cases hg : (labels h)[0]? with
        | none => rw [hg] at e1; cases e1
        | some y => rw [hg] at e1; exact e1
      have hid : (labels h).getD 0 [] = [49, 50, 55] := by
        rw [← hlow]
        refine (low_dig ?_).symm
        rw [hlow]
        intro x hx
        unfold digCh
        revert x
        decide
      rw [ip4_addr] at h4
      rcases h3 with h3 | h3
      · rw [hid] at h3
        exact absurd h3.2 (by decide)
      · unfold isAddrB at h4
        rw [labels_low, Bool.and_eq_true, List.length_map] at h4
        have h5 := List.all_eq_true.1 h4.1
        have hl : (labels h).length = 4 := of_decide_eq_true h4.2
        have hm : low (lastLab h) ∈ (labels h).map low := by
          refine List.mem_map_of_mem ?_
          unfold lastLab
          rw [hl]
          rw [List.getD_eq_getElem?_getD, List.getElem?_eq_getElem (by omega)]
          exact List.getElem_mem _
        have h6 := h5 _ hm
        have h7 := low_dig (addrLab_dig h6)
        rw [h7] at h6
        have hd : digB (lastLab h) = true := by
          unfold addrLab at h6
          rw [Bool.and_eq_true] at h6
          exact h6.1
        have hn : numB (lastLab h) = true := by
          unfold numB
          have : ∀ (l cur : List UInt8), (∀ x ∈ l, (x.toNat : Int) ≠ 46) → labelsGo cur l = [cur ++ l] := by
            intro l
            induction l with
            | nil => intro cur _; simp [labelsGo]
            | cons x r ih =>
              intro cur hx
              rw [labelsGo, if_neg (hx x (by simp)), ih _ (fun y hy => hx y (by simp [hy]))]
              simp
          unfold labels
          rw [this (lastLab h) [] (fun x hx => by have := addrLab_dig h6 x hx; unfold digCh at this; omega)]
          simpa using hd
        rw [hn] at h3
        cases h3
/-- The domain of a valid cookie is near none. -/
theorem dom_far {psl : Option (List ByteArray)} {listed : Bool} {ho : List UInt8} {c : ByteArray} {p : ByteArray × Bool} (h1 : isHostB ho = true) (h2 : plainDomB listed (lst c) = true) (h : domTy psl (str (low ho)) c = some p) : nearB p.1 = false := by
  have hh := host_far h1
  unfold domTy at h
  split at h
  · cases h; exact hh
  · rename_i hne
    split at h
    · split at h
      · cases h; exact hh
      · cases h
    · split at h
      · split at h
        · cases h; exact hh
        · cases h
      · split at h
        · cases h
        · cases h
          unfold plainDomB at h2
          rw [if_neg (fun e => hne (by rw [← str_lst c, e]; rfl))] at h2
          show nearB (domLow c) = false
          unfold domLow
          have hne' : lst c ≠ [] := fun e => hne (by rw [← str_lst c, e]; rfl)
          have hpos : 0 < (lst c).length := List.length_pos_iff.2 hne'
          by_cases hdot : (((lst c).getD 0 0).toNat : Int) = 46
          · rw [if_pos hdot] at h2
            split at h2
            · cases h2
            · unfold domTail at h2
              simp only [Bool.and_eq_true] at h2
              unfold trimPre
              rw [if_pos ⟨hpos, hdot⟩]
              exact host_far h2.1.2
          · rw [if_neg hdot] at h2
            unfold domTail at h2
            simp only [Bool.and_eq_true] at h2
            unfold trimPre
            rw [if_neg (fun e => hdot e.2)]
            exact host_far h2.1.2
end Go.Proofs.YtcofblepdfjhjaaDoor
namespace Go.Proofs.YtcofblepdfjhjaaDoor
def sufGo (d : ByteArray) : ByteArray → List ByteArray → ByteArray
  | o, [] => o
  | o, s :: r => sufGo d (if endsB d s && decide (o.size < s.size) then s else o) r
/-- The reference's public suffix. -/
def sufB (sufs : List ByteArray) (d : ByteArray) : ByteArray := if sufGo d ⟨#[]⟩ sufs = ⟨#[]⟩ then str (lastLab (lst d)) else sufGo d ⟨#[]⟩ sufs
/-- Whether a cookie's domain is a public suffix, as the reference has it. -/
def isSufB (sufs : List ByteArray) (d : ByteArray) : Bool := decide (domLow d ≠ ⟨#[]⟩) && !isAddrB (lst (domLow d)) && decide (sufB sufs (domLow d) = domLow d)
/-- The reference's test of two hosts. -/
def apartB (a b : List UInt8) : Bool := decide (a ≠ b) && (isAddrB a || isAddrB b || !(lastLab a == lastLab b))
end Go.Proofs.YtcofblepdfjhjaaDoor
namespace Go.Proofs.YtcofblepdfjhjaaDoor
theorem size_ne {s : ByteArray} (h : s ≠ ⟨#[]⟩) : 0 < s.size := by
  rcases Nat.eq_zero_or_pos s.size with h0 | h0
  · refine absurd ?_ h
    rw [← lst_len] at h0
    rw [← str_lst s, List.length_eq_zero_iff.1 h0]
    rfl
  · exact h0
theorem sufGo_big (d : ByteArray) : ∀ (l : List ByteArray) (o : ByteArray), o.size ≤ (sufGo d o l).size
  | [], o => Nat.le_refl _
  | s :: r, o => by
    rw [sufGo]
    split
    · rename_i h
      rw [Bool.and_eq_true, decide_eq_true_eq] at h
      exact Nat.le_trans (Nat.le_of_lt h.2) (sufGo_big d r s)
    · exact sufGo_big d r o
theorem pubGo_some (d : ByteArray) : ∀ (l : List ByteArray) (b : ByteArray), pubGo d (some b) l = some (sufGo d b l)
  | [], b => rfl
  | s :: r, b => by
    rw [pubGo, sufGo]
    split <;> exact pubGo_some d r _
theorem pubGo_none (d : ByteArray) : ∀ (l : List ByteArray), (∀ s ∈ l, s ≠ ⟨#[]⟩) → pubGo d none l = if sufGo d ⟨#[]⟩ l = ⟨#[]⟩ then none else some (sufGo d ⟨#[]⟩ l)
  | [], _ => by simp [pubGo, sufGo]
  | s :: r, h => by
    rw [pubGo, sufGo]
    have hs := size_ne (h s List.mem_cons_self)
    have h0 : ((⟨#[]⟩ : ByteArray)).size = 0 := rfl
    cases he : endsB d s
    · rw [if_neg (by decide : ¬ (false = true)), Bool.false_and, if_neg (by decide : ¬ (false = true))]
      exact pubGo_none d r fun x hx => h x (List.mem_cons_of_mem _ hx)
    · rw [if_pos rfl, Bool.true_and, if_pos (decide_eq_true (by rw [h0]; exact hs)), pubGo_some, if_neg]
      intro e
      have := sufGo_big d r s
      rw [e, h0] at this
      omega
theorem pubSuf_eq {sufs : List ByteArray} (h : ∀ s ∈ sufs, s ≠ ⟨#[]⟩) (d : ByteArray) : pubSuf sufs d = sufB sufs d := by
  unfold pubSuf sufB
  rw [pubGo_none d sufs h, afterDot_eq]
  split <;> rfl
theorem sufOK_ne {s : ByteArray} (h : sufOK s = true) : s ≠ ⟨#[]⟩ := by
  rintro rfl
  revert h
  decide
theorem dotSuf_self (l : List UInt8) : dotSuf l l = false := by unfold dotSuf; exact decide_eq_false (by omega)
theorem domLow_eq (d : ByteArray) : domLow d = str (trimPre 46 (low (lst d))) := by
  unfold domLow trimPre
  have hl : (low (lst d)).length = (lst d).length := by simp [low]
  have hg : (((low (lst d)).getD 0 0).toNat : Int) = 46 ↔ (((lst d).getD 0 0).toNat : Int) = 46 := by
    cases hd : lst d with
    | nil => simp [low]
    | cons x r => exact lowC_46 x
  rw [hl]
  by_cases h : 0 < (lst d).length ∧ (((lst d).getD 0 0).toNat : Int) = 46
  · rw [if_pos h, if_pos ⟨h.1, hg.2 h.2⟩]
    congr 1
    simp [low]
  · rw [if_neg h, if_neg (fun e => h ⟨e.1, hg.1 e.2⟩)]
theorem suf_alone {sufs : List ByteArray} {host c : ByteArray} {p : ByteArray × Bool} (hs : ∀ s ∈ sufs, s ≠ ⟨#[]⟩) (hi : isSufB sufs c = true) (h : domTy (some sufs) host c = some p) : p = (host, true) := by
  unfold isSufB at hi
  simp only [Bool.and_eq_true, decide_eq_true_eq] at hi
  obtain ⟨⟨h1, _⟩, h3⟩ := hi
  unfold domTy at h
  split at h
  · exact (Option.some.inj h).symm
  · split at h
    · split at h
      · exact (Option.some.inj h).symm
      · cases h
    · have hc : sufChk (some sufs) (domLow c) = true := by
        unfold sufChk
        simp only []
        rw [pubSuf_eq hs, h3, decide_eq_false h1, dotSuf_self]
        rfl
      rw [if_pos hc] at h
      split at h
      · exact (Option.some.inj h).symm
      · cases h
/-! Keys. -/
theorem lastLab_at {a b : List UInt8} {y : UInt8} (hy : (y.toNat : Int) = 46) (hb : ∀ x ∈ b, (x.toNat : Int) ≠ 46) : lastLab (a ++ y :: b) = b := by
  rw [lastLab_eq, lastIdx_at hy hb]
  have : ((a.length : Int) + 1).toNat = a.length + 1 := by omega
  rw [this, show a ++ y :: b = (a ++ [y]) ++ b by simp, List.drop_left' (by simp)]
theorem lastLab_free {l : List UInt8} (h : ∀ x ∈ l, (x.toNat : Int) ≠ 46) : lastLab l = l := by
  rw [lastLab_eq, lastIdx_none h]
  rfl
theorem lastIdx_take {a b : List UInt8} {y : UInt8} (hb : ∀ x ∈ b, (x.toNat : Int) ≠ 46) (k : Nat) : lastIdx 46 ((a ++ y :: b).take k) ≤ a.length := by
  rcases last_cases 46 ((a ++ y :: b).take k) with hn | ⟨a', y', b', e, hy', hb'⟩
  · rw [lastIdx_none hn]; omega
  · rw [e, lastIdx_at hy' hb']
    by_cases hle : a'.length ≤ a.length
    · omega
    · exfalso
      have h1 : ((a ++ y :: b).take k)[a'.length]? = some y' := by rw [e]; simp
      rw [List.getElem?_take] at h1
      split at h1
      · rw [List.getElem?_append_right (by omega)] at h1
        obtain ⟨m, hm⟩ : ∃ m, a'.length - a.length = m + 1 := ⟨a'.length - a.length - 1, by omega⟩
        rw [hm, List.getElem?_cons_succ] at h1
        exact hb y' (List.mem_of_getElem? h1) hy'
      · cases h1
theorem lastLab_drop (h : List UInt8) (k : Nat) : lastLab (h.drop (lastIdx 46 (h.take k) + 1).toNat) = lastLab h := by
  rcases last_cases 46 h with hn | ⟨a, y, b, rfl, hy, hb⟩
  · rw [lastIdx_none (fun x hx => hn x (List.mem_of_mem_take hx))]
    rfl
  · have hle := lastIdx_take (a := a) (y := y) hb k
    generalize hm : (lastIdx 46 ((a ++ y :: b).take k) + 1).toNat = m
    have hm' : m ≤ a.length + 1 := by omega
    rw [lastLab_at hy hb]
    by_cases h1 : m ≤ a.length
    · rw [List.drop_append_of_le_length h1, lastLab_at hy hb]
    · obtain rfl : m = a.length + 1 := by omega
      rw [show a ++ y :: b = (a ++ [y]) ++ b by simp, List.drop_left' (by simp), lastLab_free hb]
theorem key_lab (psl : Option (List ByteArray)) (host : ByteArray) : lastLab (lst (keyOf psl host)) = lastLab (lst host) := by
  have hk : ∀ i, lastLab (lst (keyFrom host i)) = lastLab (lst host) := fun i => by
    unfold keyFrom
    rw [lst_str, lastLab_drop]
  unfold keyOf
  split
  · rfl
  · cases psl with
    | none => simp only []; split <;> first | rfl | exact hk _
    | some sufs =>
      simp only []
      split
      · rfl
      · split
        · rfl
        · exact hk _
theorem key_addr {psl : Option (List ByteArray)} {host : ByteArray} (h : isAddrB (lst host) = true) : keyOf psl host = host := by
  unfold keyOf
  rw [if_pos (by rw [ip4_addr]; exact h)]
theorem addr_last {h : List UInt8} (H : isAddrB h = true) : digB (lastLab h) = true := by
  unfold isAddrB at H
  rw [Bool.and_eq_true] at H
  have hl : (labels h).length = 4 := of_decide_eq_true H.2
  have hm : lastLab h ∈ labels h := by
    unfold lastLab
    rw [hl, List.getD_eq_getElem?_getD, List.getElem?_eq_getElem (by omega)]
    exact List.getElem_mem _
  have := List.all_eq_true.1 H.1 _ hm
  unfold addrLab at this
  rw [Bool.and_eq_true] at this
  exact this.1
theorem num_of_dig {l : List UInt8} (h : digB l = true) : numB l = true := by
  have hd : ∀ x ∈ l, (x.toNat : Int) ≠ 46 := fun x hx => by
    have h' := h
    unfold digB at h'
    rw [Bool.and_eq_true] at h'
    have := allDig_mem l h'.1 x hx
    unfold digCh at this
    omega
  have : ∀ (l cur : List UInt8), (∀ x ∈ l, (x.toNat : Int) ≠ 46) → labelsGo cur l = [cur ++ l] := by
    intro l
    induction l with
    | nil => intro cur _; simp [labelsGo]
    | cons x r ih =>
      intro cur hx
      rw [labelsGo, if_neg (hx x (by simp)), ih _ (fun y hy => hx y (by simp [hy]))]
      simp
  unfold numB labels
  rw [this l [] hd]
  simpa using h
/-- A valid host in lower case whose last label is digits is an address. -/
theorem host_num {h : List UInt8} (H : isHostB h = true) (hd : digB (lastLab (low h)) = true) : isAddrB (low h) = true := by
  rw [lastLab_low] at hd
  have hd' := hd
  unfold digB at hd'
  rw [Bool.and_eq_true] at hd'
  rw [low_dig (allDig_mem _ hd'.1)] at hd
  unfold isHostB at H
  simp only [Bool.and_eq_true, Bool.or_eq_true, Bool.not_eq_true'] at H
  rcases H.2 with ⟨h1, _⟩ | h1
  · unfold isAddrB at h1 ⊢
    rw [labels_low, List.length_map, Bool.and_eq_true]
    rw [Bool.and_eq_true] at h1
    refine ⟨List.all_eq_true.2 fun x hx => ?_, h1.2⟩
    obtain ⟨y, hy, rfl⟩ := List.mem_map.1 hx
    have hy' := List.all_eq_true.1 h1.1 y hy
    have : low y = y := by
      unfold low
      conv => rhs; rw [← List.map_id y]
      refine List.map_congr_left fun z hz => ?_
      have := addrLab_dig hy' z hz
      unfold digCh at this
      unfold lowC
      rw [if_neg (by omega)]
      rfl
    rw [this]
    exact hy'
  · rw [num_of_dig hd] at h1
    cases h1
theorem apart_keys {psl : Option (List ByteArray)} {a b : List UInt8} (ha : isHostB a = true) (hb : isHostB b = true) (h : apartB (low a) (low b) = true) : keyOf psl (str (low b)) ≠ keyOf psl (str (low a)) := by
  intro e
  unfold apartB at h
  simp only [Bool.and_eq_true, Bool.or_eq_true, Bool.not_eq_true', decide_eq_true_eq] at h
  have hl : lastLab (low b) = lastLab (low a) := by
    have : lastLab (lst (keyOf psl (str (low b)))) = lastLab (lst (keyOf psl (str (low a)))) := by rw [e]
    rw [key_lab, key_lab, lst_str, lst_str] at this
    exact this
  have hboth : isAddrB (low a) = true → isAddrB (low b) = true → False := fun h1 h2 => by
    rw [key_addr (by rw [lst_str]; exact h2), key_addr (by rw [lst_str]; exact h1)] at e
    have := congrArg lst e
    rw [lst_str, lst_str] at this
    exact h.1 this.symm
  rcases h.2 with (h1 | h1) | h1
  · exact hboth h1 (host_num hb (by rw [hl]; exact addr_last h1))
  · exact hboth (host_num ha (by rw [← hl]; exact addr_last h1)) h1
  · rw [hl] at h1
    simp at h1
end Go.Proofs.YtcofblepdfjhjaaDoor
namespace Go.Proofs.YtcofblepdfjhjaaDoor
open Go.RowKit
def endsPlain (s t : List UInt8) : Bool := decide (t.length ≤ s.length ∧ s.drop (s.length - t.length) = t)
theorem sends_any (s t : ByteArray) (w : World) (hs : s.size ≤ 9223372036854775807) (ht : t.size ≤ 9223372036854775807) :
    Calls Tryd.prog 52 #[.string s, .string t] w fun e w' => e = .returned (.bool (endsPlain (lst s) (lst t))) ∧ w = w' := by
  by_cases h0 : t.size ≤ s.size
  · go_enter Tryd.func52, Tryd.ntmps52
    go_wp2
    go_ret
    exact ⟨ret_bool (by rw [beq_lst, endsPlain, extract_from]; exact decide_congr (by rw [lst_len, lst_len]; exact ⟨fun h => ⟨h0, h⟩, fun h => h.2⟩)), rfl⟩
  · go_enter Tryd.func52, Tryd.ntmps52
    go_wp2
    go_ret
    exact ⟨ret_bool (by rw [endsPlain, eq_comm, decide_eq_false_iff_not, lst_len, lst_len]; exact fun h => h0 h.1), rfl⟩
theorem dot_lst (x : ByteArray) : lst ((⟨#[46]⟩ : ByteArray) ++ x) = 46 :: lst x := by
  unfold lst
  rw [ByteArray.data_append]
  simp
theorem ends_dot (s x : List UInt8) : endsPlain s (46 :: x) = dotSuf s x := by
  unfold endsPlain dotSuf
  apply decide_eq_decide.2
  rw [List.length_cons]
  constructor
  · rintro ⟨h1, h2⟩
    have hlt : s.length - (x.length + 1) < s.length := by omega
    rw [List.drop_eq_getElem_cons hlt] at h2
    injection h2 with h3 h4
    have e : s.length - x.length - 1 = s.length - (x.length + 1) := by omega
    refine ⟨by omega, ?_, ?_⟩
    · rw [e, List.getD_eq_getElem?_getD, List.getElem?_eq_getElem hlt, h3]; rfl
    · rw [show s.length - x.length = s.length - (x.length + 1) + 1 by omega]; exact h4
  · rintro ⟨h1, h2, h3⟩
    have hlt : s.length - (x.length + 1) < s.length := by omega
    refine ⟨by omega, ?_⟩
    rw [List.drop_eq_getElem_cons hlt, show s.length - (x.length + 1) + 1 = s.length - x.length by omega, h3]
    congr 1
    rw [show s.length - x.length - 1 = s.length - (x.length + 1) by omega, List.getD_eq_getElem?_getD, List.getElem?_eq_getElem hlt] at h2
    apply UInt8.toNat_inj.1
    have : (s[s.length - (x.length + 1)].toNat : Int) = 46 := h2
    show s[s.length - (x.length + 1)].toNat = 46
    omega
set_option maxRecDepth 100000 in
set_option maxHeartbeats 1600000 in
theorem Suffix_any (v : Value) (sufs : List ByteArray) (B : Nat) (d : ByteArray) (w : World) (h : StrsAt w B v sufs) (hl : sufs.length ≤ 2147483647) (hsz : ∀ x ∈ sufs, x.size ≤ 2147483647) (hd : d.size ≤ 2147483647) :
    Calls Tryd.prog 41 #[v, .string d] w fun r w' => r = .returned (.string (sufB sufs d)) ∧ Below w.heap.size w w' := by
  obtain ⟨ao, b, off, cap, rfl, ha, hc⟩ := h.ex
  clear h
  have HC := Lib.hid hc
  have HS := Lib.hid hsz
  have HA := Lib.hid ha
  clear hc hsz ha
  go_enter Tryd.func41, Tryd.ntmps41
  go_wp2
  go_loop [5, 11] (fun ov i => ∃ (k : Nat) (o : ByteArray), k ≤ sufs.length ∧ i = .int .i64 k ∧ ov = .string o ∧ o.size ≤ 2147483647 ∧ Hid (sufGo d ⟨#[]⟩ sufs = sufGo d o (sufs.drop k))) (fun _ i => sufs.length - (intOf i).toNat)
  case atStart => exact ⟨0, ⟨#[]⟩, Nat.zero_le _, rfl, rfl, by decide, rfl⟩
  case round =>
    obtain ⟨k, o, hk, rfl, rfl, ho, hrel⟩ := hrel
    by_cases hlt : k < sufs.length
    · have hcell := strs_cell HC.out k hlt
      have hks := HS.out sufs[k] (List.getElem_mem hlt)
      obtain ⟨ha1, _⟩ := HA.out (by omega)
      subst ha1
      have hdrop : sufs.drop k = sufs[k] :: sufs.drop (k + 1) := List.drop_eq_getElem_cons hlt
      generalize sufs[k] = x at *
      have hrel' : Hid (sufGo d ⟨#[]⟩ sufs = sufGo d (if endsB d x && decide (o.size < x.size) then x else o) (sufs.drop (k + 1))) := by
        show _ = _
        rw [hrel.out, hdrop, sufGo]
      have hdx : (⟨#[46]⟩ ++ x : ByteArray).size ≤ 9223372036854775807 := by rw [ByteArray.size_append]; have : (⟨#[46]⟩ : ByteArray).size = 1 := rfl; omega
      have HD := fun W => sends_any d (⟨#[46]⟩ ++ x) W (by omega) hdx
      simp only [dot_lst, ends_dot] at HD
      clear hrel hdrop
      cases he : (x.toList == d.toList)
      · have hne : decide (lst d = lst x) = false := by
          rw [beq_lst] at he
          exact decide_eq_false fun e => (of_decide_eq_false he) e.symm
        cases hs : dotSuf (lst d) (lst x)
        · have hrel2 : Hid (sufGo d ⟨#[]⟩ sufs = sufGo d o (sufs.drop (k + 1))) := by
            show _ = _
            rw [hrel'.out, endsB, hne, hs]
            rfl
          have Hs := Lib.hid hs
          clear hrel' hne hs
          go_wp2_with fail
          refine (HD _).mono ?_
          rintro r w' ⟨rfl, rfl⟩
          rw [Hs.out]
          go_wp2
          go_round
          case rel => exact ⟨k + 1, o, by omega, by go_num, rfl, ho, hrel2⟩
          case measure => simp [intOf]; omega
        · have Hs := Lib.hid hs
          by_cases hgt : o.size < x.size
          · have hrel2 : Hid (sufGo d ⟨#[]⟩ sufs = sufGo d x (sufs.drop (k + 1))) := by
              show _ = _
              rw [hrel'.out, endsB, hne, hs, decide_eq_true hgt]
              rfl
            clear hrel' hne hs
            go_wp2_with fail
            refine (HD _).mono ?_
            rintro r w' ⟨rfl, rfl⟩
            rw [Hs.out]
            go_wp2
            go_round
            case rel => exact ⟨k + 1, x, by omega, by go_num, rfl, hks, hrel2⟩
            case measure => simp [intOf]; omega
          · have hrel2 : Hid (sufGo d ⟨#[]⟩ sufs = sufGo d o (sufs.drop (k + 1))) := by
              show _ = _
              rw [hrel'.out, endsB, hne, hs, decide_eq_false hgt]
              rfl
            clear hrel' hne hs
            go_wp2_with fail
            refine (HD _).mono ?_
            rintro r w' ⟨rfl, rfl⟩
            rw [Hs.out]
            go_wp2
            go_round
            case rel => exact ⟨k + 1, o, by omega, by go_num, rfl, ho, hrel2⟩
            case measure => simp [intOf]; omega
      · have hne : decide (lst d = lst x) = true := by
          rw [beq_lst] at he
          exact decide_eq_true (of_decide_eq_true he).symm
        by_cases hgt : o.size < x.size
        · have hrel2 : Hid (sufGo d ⟨#[]⟩ sufs = sufGo d x (sufs.drop (k + 1))) := by
            show _ = _
            rw [hrel'.out, endsB, hne, decide_eq_true hgt]
            rfl
          clear hrel' hne
          go_wp2
          go_round
          case rel => exact ⟨k + 1, x, by omega, by go_num, rfl, hks, hrel2⟩
          case measure => simp [intOf]; omega
        · have hrel2 : Hid (sufGo d ⟨#[]⟩ sufs = sufGo d o (sufs.drop (k + 1))) := by
            show _ = _
            rw [hrel'.out, endsB, hne, decide_eq_false hgt]
            rfl
          clear hrel' hne
          go_wp2
          go_round
          case rel => exact ⟨k + 1, o, by omega, by go_num, rfl, ho, hrel2⟩
          case measure => simp [intOf]; omega
    · have hend : sufs.drop k = [] := List.drop_eq_nil_of_le (by omega)
      have hr : sufGo d ⟨#[]⟩ sufs = o := by rw [hrel.out, hend]; rfl
      clear hrel hend
      by_cases h0 : o = ⟨#[]⟩
      · subst h0
        have HR : Hid (sufB sufs d = str (lastLab (lst d))) := by show _ = _; unfold sufB; rw [if_pos hr]
        clear hr
        have hI := labIn d
        have hne := labels_ne (lst d)
        have hlpos : 0 < (labels (lst d)).length := List.length_pos_iff.2 hne
        have hlen := hI.len
        have e1 : ((labels (lst d)).map str).length = (labels (lst d)).length := by simp
        go_wp2_with fail
        refine (labels_any d _ (by omega)).mono ?_
        rintro e w1 ⟨v, rfl, ⟨b1, cap1, rfl, hbB, hbs, hc⟩, hb⟩
        have cl := hc ((labels (lst d)).length - 1) (str (lastLab (lst d))) (by
          rw [List.getElem?_map, lastLab, List.getD_eq_getElem?_getD, List.getElem?_eq_getElem (by omega)]; rfl)
        rw [e1] at hlen ⊢
        clear hI hc hne e1
        generalize str (lastLab (lst d)) = la at *
        generalize (labels (lst d)).length = n at *
        go_wp2
        go_ret
        exact ⟨ret_str HR.out.symm, hb⟩
      · have HR : Hid (sufB sufs d = o) := by show _ = _; unfold sufB; rw [hr, if_neg h0]
        have f0 : (o.toList == ([] : List UInt8)) = false := by rw [toList_lst, beq_eq_false_iff_ne]; exact fun e => h0 (by rw [← str_lst o, e]; rfl)
        clear hr h0
        go_wp2
        go_ret
        exact ⟨ret_str HR.out.symm, Below.refl _ _⟩
end Go.Proofs.YtcofblepdfjhjaaDoor
namespace Go.Proofs.YtcofblepdfjhjaaDoor
open Go.RowKit
set_option maxRecDepth 100000 in
set_option maxHeartbeats 1600000 in
theorem IsSuffix_any (v : Value) (sufs : List ByteArray) (c : ByteArray) (w : World) (h : StrsAt w w.heap.size v sufs) (hl : sufs.length ≤ 2147483647) (hsz : ∀ x ∈ sufs, x.size ≤ 2147483647) (hd : c.size ≤ 2147483647) :
    Calls Tryd.prog 23 #[v, .string c] w fun r w' => r = .returned (.bool (isSufB sufs c)) ∧ Below w.heap.size w w' := by
  have HL := lower_any c w (by omega)
  have hls : (str (low (lst c))).size ≤ 2147483647 := by rw [str_size]; unfold low; rw [List.length_map, lst_len]; exact hd
  have hdl : domLow c = str (trimPre 46 (lst (str (low (lst c))))) := by rw [lst_str]; exact domLow_eq c
  have HI : Hid (isSufB sufs c = (decide (domLow c ≠ ⟨#[]⟩) && !isAddrB (lst (domLow c)) && decide (sufB sufs (domLow c) = domLow c))) := rfl
  generalize hDD : domLow c = D at hdl HI
  clear hDD
  generalize str (low (lst c)) = L at *
  obtain ⟨cb, hcb⟩ : ∃ b, isSufB sufs c = b := ⟨_, rfl⟩
  rw [hcb] at HI ⊢
  clear hcb
  go_enter Tryd.func23, Tryd.ntmps23
  go_wp2_with fail
  refine HL.mono ?_
  rintro r w1 ⟨rfl, hb1⟩
  have hS := h.below hb1 (Nat.le_refl _)
  have HA := fun W => isAddress_any D W
  have HSUF := fun W hh => Suffix_any v sufs w.heap.size D W hh hl hsz
  clear HL h
  by_cases h0 : L = ⟨#[]⟩
  · subst h0
    have hD : D = ⟨#[]⟩ := by rw [hdl]; decide
    have HR : Hid (cb = false) := by show _ = _; rw [HI.out, hD]; simp
    clear hdl hD HI HA HSUF
    go_wp2
    go_ret
    exact ⟨ret_bool HR.out.symm, hb1⟩
  · have f1 : (L.toList == ([] : List UInt8)) = false := by rw [toList_lst, beq_eq_false_iff_ne]; exact fun e => h0 (by rw [← str_lst L, e]; rfl)
    have hpos := size_ne h0
    have hg : (lst L).getD 0 0 = L[0] := getD_lst L 0 hpos
    clear h0
    by_cases hdot : ((L[0].toNat : Int) == 46) = true
    · have hD : L.extract 1 L.size = D := by
        rw [hdl]
        apply lst_inj
        rw [lst_str, extract_from]
        unfold trimPre
        rw [if_pos ⟨by rw [lst_len]; exact hpos, by rw [hg]; exact beqT hdot⟩]
      have hDs : D.size ≤ 2147483647 := by rw [← hD, ByteArray.size_extract]; omega
      have hDE := Lib.hid hD
      clear hdl hD
      go_upto_region 4 with (fail)
      rw [hDE.out]
      clear hDE f1
      by_cases h9 : D = ⟨#[]⟩
      · subst h9
        have HR : Hid (cb = false) := by show _ = _; rw [HI.out]; rfl
        clear HI HA HSUF
        go_wp2
        go_ret
        exact ⟨ret_bool HR.out.symm, hb1⟩
      · have f1 : (D.toList == ([] : List UInt8)) = false := by rw [toList_lst, beq_eq_false_iff_ne]; exact fun e => h9 (by rw [← str_lst D, e]; rfl)
        by_cases hA : isAddrB (lst D) = true
        · have HAD := Lib.hid hA
          have HR : Hid (cb = false) := by show _ = _; rw [HI.out, hA]; simp
          clear hA HI HSUF h9
          go_wp2_with fail
          refine (HA _ (by omega)).mono ?_
          rintro r w2 ⟨rfl, hb2⟩
          rw [HAD.out]
          go_wp2
          go_ret
          exact ⟨ret_bool HR.out.symm, hb1.trans (hb2.mono hb1.size)⟩
        · have hA' : isAddrB (lst D) = false := by simpa using hA
          have HAD := Lib.hid hA'
          have HR : Hid (cb = (((sufB sufs D).toList == D.toList))) := by
            show _ = _
            rw [HI.out, hA', beq_lst]
            rw [decide_eq_true h9, Bool.true_and, Bool.not_false, Bool.true_and]
            exact decide_eq_decide.2 (eq_iff_lst _ _)
          clear hA HI hA' h9
          go_wp2_with fail
          refine (HA _ (by omega)).mono ?_
          rintro r w2 ⟨rfl, hb2⟩
          rw [HAD.out]
          have hS2 := hS.below hb2 hb1.size
          go_wp2_with fail
          refine (HSUF _ hS2 hDs).mono ?_
          rintro r w3 ⟨rfl, hb3⟩
          go_wp2
          go_ret
          exact ⟨ret_bool HR.out.symm, (hb1.trans (hb2.mono hb1.size)).trans (hb3.mono (Nat.le_trans hb1.size hb2.size))⟩
    · have hdot' : ((L[0].toNat : Int) == 46) = false := by simpa using hdot
      have hD : L = D := by
        rw [hdl]
        apply lst_inj
        rw [lst_str]
        unfold trimPre
        rw [if_neg]
        rintro ⟨_, e⟩
        rw [hg] at e
        exact hdot (by rw [e]; rfl)
      clear hdl hdot
      subst hD
      by_cases hA : isAddrB (lst L) = true
      · have HAD := Lib.hid hA
        have HR : Hid (cb = false) := by show _ = _; rw [HI.out, hA]; simp
        clear hA HI HSUF
        go_wp2_with fail
        refine (HA _ (by omega)).mono ?_
        rintro r w2 ⟨rfl, hb2⟩
        rw [HAD.out]
        go_wp2
        go_ret
        exact ⟨ret_bool HR.out.symm, hb1.trans (hb2.mono hb1.size)⟩
      · have hA' : isAddrB (lst L) = false := by simpa using hA
        have HAD := Lib.hid hA'
        have HR : Hid (cb = (((sufB sufs L).toList == L.toList))) := by
          show _ = _
          rw [HI.out, hA', beq_lst]
          have : L ≠ ⟨#[]⟩ := by rintro rfl; exact absurd hpos (by decide)
          rw [decide_eq_true this, Bool.true_and, Bool.not_false, Bool.true_and]
          exact decide_eq_decide.2 (eq_iff_lst _ _)
        clear hA HI hA'
        go_wp2_with fail
        refine (HA _ (by omega)).mono ?_
        rintro r w2 ⟨rfl, hb2⟩
        rw [HAD.out]
        have hS2 := hS.below hb2 hb1.size
        go_wp2_with fail
        refine (HSUF _ hS2 hls).mono ?_
        rintro r w3 ⟨rfl, hb3⟩
        go_wp2
        go_ret
        exact ⟨ret_bool HR.out.symm, (hb1.trans (hb2.mono hb1.size)).trans (hb3.mono (Nat.le_trans hb1.size hb2.size))⟩
end Go.Proofs.YtcofblepdfjhjaaDoor

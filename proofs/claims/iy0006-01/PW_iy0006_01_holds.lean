import PyProof.Rows.All
import Wide.All
import OpenK.AllK
import Wide.FinOn
import PySem.Challenge.RW_iy0006_01
set_option Elab.async false
set_option maxRecDepth 100000
set_option maxHeartbeats 8000000
section
open PySem PySem.W PyProof.Rows
namespace Mine
open_top hd for PySem.Challenge.rw_iy0006_01
end Mine
end
section
open PySem PySem.Builtin
namespace Mine

/-- the walk that lays LF for each CRLF -/
def short : List UInt8 → List UInt8
  | [] => []
  | c :: r => if c = 13 ∧ r.head? = some 10 then short r else c :: short r
/-- the walk that lays CRLF for each LF -/
def expand : List UInt8 → List UInt8
  | [] => []
  | c :: r => if c = 10 then 13 :: 10 :: expand r else c :: expand r
def long (l : List UInt8) : List UInt8 := expand (short l)
def hasCL : List UInt8 → Bool
  | [] => false
  | c :: r => (decide (c = 13) && decide (r.head? = some 10)) || hasCL r

/-- the pieces between a text's marks -/
def cutS (y : List UInt8) : Nat → List UInt8 → List (List UInt8)
  | _, [] => [[]]
  | k + 1, _ :: r => cutS y k r
  | 0, c :: r => if y.isPrefixOf (c :: r) then [] :: cutS y (y.length - 1) r else
      match cutS y 0 r with
      | [] => [[c]]
      | p :: ps => (c :: p) :: ps
def occS (y : List UInt8) : Nat → Nat → List UInt8 → List Nat
  | _, _, [] => []
  | i, k + 1, _ :: r => occS y (i + 1) k r
  | i, 0, c :: r => if y.isPrefixOf (c :: r) then i :: occS y (i + 1) (y.length - 1) r else occS y (i + 1) 0 r

theorem cutS_ne (y : List UInt8) : ∀ (x : List UInt8) (k : Nat), cutS y k x ≠ []
  | [], k => by cases k <;> simp [cutS]
  | c :: r, 0 => by
    unfold cutS
    split
    · simp
    · split <;> simp
  | c :: r, k + 1 => by unfold cutS; exact cutS_ne y r k

theorem occS_short {y : List UInt8} : ∀ (x : List UInt8) (i k : Nat), x.length < y.length → occS y i k x = []
  | [], i, k, _ => by cases k <;> rfl
  | c :: r, i, 0, h => by
    have h1 : r.length < y.length := by simp at h; omega
    unfold occS
    have : y.isPrefixOf (c :: r) = false := by
      cases hp : y.isPrefixOf (c :: r) with
      | false => rfl
      | true =>
        have := (List.isPrefixOf_iff_prefix.mp hp).length_le
        omega
    rw [this]
    simpa using occS_short r (i + 1) 0 h1
  | c :: r, i, k + 1, h => by
    have h1 : r.length < y.length := by simp at h; omega
    unfold occS
    exact occS_short r (i + 1) k h1

theorem prefix_take {y x : List UInt8} : y.isPrefixOf x = (x.take y.length == y) := by
  rw [Bool.eq_iff_iff, List.isPrefixOf_iff_prefix, beq_iff_eq, List.prefix_iff_eq_take]
  exact eq_comm
theorem ext_list (b sub : Array UInt8) (i : Nat) : (b.extract i (i + sub.size) == sub) = sub.toList.isPrefixOf (b.toList.drop i) := by
  rw [prefix_take, Bool.eq_iff_iff, beq_iff_eq, beq_iff_eq]
  rw [← Array.toList_inj]
  simp [List.take_drop]

theorem occ_fold (b sub : Array UInt8) (h : 0 < sub.size) : ∀ (cnt i next : Nat) (acc : List Nat), i + cnt + sub.size = b.size + 1 →
    (((List.range' i cnt).foldl (fun (acc : List Nat × Nat) (i : Nat) => if i ≥ acc.2 && b.extract i (i + sub.size) == sub then (i :: acc.1, i + sub.size) else acc) (acc, next)).1.reverse)
      = acc.reverse ++ occS sub.toList i (next - i) (b.toList.drop i)
  | 0, i, next, acc, e => by
    have : (b.toList.drop i).length < sub.toList.length := by simp; omega
    simp [occS_short _ _ _ this]
  | cnt + 1, i, next, acc, e => by
    have hi : i < b.toList.length := by simp; omega
    rw [List.range'_succ, List.foldl_cons]
    obtain ⟨c, r, hcr⟩ : ∃ c r, b.toList.drop i = c :: r := ⟨_, _, List.drop_eq_getElem_cons hi⟩
    have hr : r = b.toList.drop (i + 1) := by rw [← List.drop_drop, hcr]; rfl
    rw [ext_list, hcr]
    by_cases hn : i ≥ next
    · have e0 : next - i = 0 := by omega
      rw [e0]
      unfold occS
      cases hp : sub.toList.isPrefixOf (c :: r) with
      | true =>
        simp only [hn, decide_true, Bool.true_and, if_true]
        rw [occ_fold b sub h cnt (i + 1) (i + sub.size) (i :: acc) (by omega), ← hr]
        have : i + sub.size - (i + 1) = sub.toList.length - 1 := by simp; omega
        rw [this]; simp
      | false =>
        simp only [Bool.and_false, Bool.false_eq_true, if_false]
        rw [occ_fold b sub h cnt (i + 1) next acc (by omega), ← hr]
        have : next - (i + 1) = 0 := by omega
        rw [this]
    · have : decide (i ≥ next) = false := by simp; omega
      simp only [this, Bool.false_and, Bool.false_eq_true, if_false]
      rw [occ_fold b sub h cnt (i + 1) next acc (by omega), ← hr]
      obtain ⟨k, hk⟩ : ∃ k, next - i = k + 1 := ⟨next - i - 1, by omega⟩
      have : next - (i + 1) = k := by omega
      rw [hk, this]
      conv => rhs; unfold occS

theorem occ_eq (b sub : Array UInt8) (h : 0 < sub.size) : Bytes.occurrences b sub 0 b.size = occS sub.toList 0 0 b.toList := by
  unfold Bytes.occurrences
  by_cases hs : sub.size ≤ b.size + 1
  · have := occ_fold b sub h (b.size + 1 - sub.size) 0 0 [] (by omega)
    simp only [Nat.zero_add, Nat.add_zero, List.map_id'] at this ⊢
    rw [List.range_eq_range']
    simpa using this
  · have e : b.size + 1 - (0 + sub.size) = 0 := by omega
    rw [e]
    have : b.toList.length < sub.toList.length := by simp; omega
    simp [occS_short _ _ _ this]

def betw (x : List UInt8) (w : Nat) : Nat → List Nat → List (List UInt8)
  | last, [] => [x.drop last]
  | last, p :: ps => (x.drop last).take (p - last) :: betw x w (p + w) ps

theorem betw_fold (b : Array UInt8) (w : Nat) : ∀ (places : List Nat) (parts : Array (Array UInt8)) (last : Nat),
    (((places.foldl (fun (x : Array (Array UInt8) × Nat) p => (x.1.push (b.extract x.2 p), p + w)) (parts, last)).1.push
      (b.extract (places.foldl (fun (x : Array (Array UInt8) × Nat) p => (x.1.push (b.extract x.2 p), p + w)) (parts, last)).2 b.size)).toList.map (·.toList))
      = parts.toList.map (·.toList) ++ betw b.toList w last places
  | [], parts, last => by simp [betw, List.take_of_length_le]
  | p :: ps, parts, last => by
    rw [List.foldl_cons, betw_fold b w ps]
    simp [betw]

theorem between_eq (b : Array UInt8) (w : Nat) (places : List Nat) : (Bytes.between b w places).map (·.toList) = betw b.toList w 0 places := by
  have := betw_fold b w places #[] 0
  simpa [Bytes.between] using this

theorem betw_cut (y : List UInt8) (hy : y ≠ []) (x : List UInt8) : ∀ (r : List UInt8) (i : Nat), x.drop i = r →
    (∀ k, betw x y.length (i + k) (occS y i k r) = (if k = 0 then betw x y.length i (occS y i 0 r) else cutS y k r)) ∧
    (∀ last, last ≤ i → betw x y.length last (occS y i 0 r) = (match cutS y 0 r with | [] => [] | p :: ps => ((x.drop last).take (i - last) ++ p) :: ps))
  | [], i, h => by
    have hi : x.length ≤ i := by simpa using h
    constructor
    · intro k
      cases k with
      | zero => simp
      | succ k => simp [occS, betw, cutS]; omega
    · intro last hl
      simp only [occS, betw, cutS, List.append_nil]
      rw [List.take_of_length_le (by simp; omega)]
  | c :: r, i, h => by
    have hr : x.drop (i + 1) = r := by rw [← List.drop_drop, h]; rfl
    have hi : i < x.length := by
      by_cases q : i < x.length
      · exact q
      · rw [List.drop_eq_nil_of_le (by omega)] at h; cases h
    obtain ⟨ih1, ih2⟩ := betw_cut y hy x r (i + 1) hr
    have hpos : 0 < y.length := List.length_pos_iff.mpr hy
    constructor
    · intro k
      cases k with
      | zero => simp
      | succ k =>
        simp only [Nat.add_eq_zero_iff, Nat.one_ne_zero, and_false, if_false]
        have := ih1 k
        have e : i + 1 + k = i + (k + 1) := by omega
        rw [e] at this
        rw [show occS y i (k + 1) (c :: r) = occS y (i + 1) k r by rw [occS], this]
        rw [show cutS y (k + 1) (c :: r) = cutS y k r by rw [cutS]]
        split
        · rename_i hk
          subst hk
          have := ih2 (i + 1) (Nat.le_refl _)
          rw [this]
          cases hc : cutS y 0 r with
          | nil => exact absurd hc (cutS_ne _ _ _)
          | cons p ps => simp
        · rfl
    · intro last hl
      rw [show occS y i 0 (c :: r) = if y.isPrefixOf (c :: r) then i :: occS y (i + 1) (y.length - 1) r else occS y (i + 1) 0 r by rw [occS]]
      rw [show cutS y 0 (c :: r) = if y.isPrefixOf (c :: r) then [] :: cutS y (y.length - 1) r else match cutS y 0 r with | [] => [[c]] | p :: ps => (c :: p) :: ps by rw [cutS]]
      cases hp : y.isPrefixOf (c :: r) with
      | true =>
        simp only [if_true]
        have := ih1 (y.length - 1)
        have e : i + 1 + (y.length - 1) = i + y.length := by omega
        rw [e] at this
        simp only [betw, List.append_nil]
        rw [this]
        congr 1
        split
        · rename_i h1
          rw [h1]
          have := ih2 (i + 1) (Nat.le_refl _)
          rw [this]
          cases hc : cutS y 0 r with
          | nil => exact absurd hc (cutS_ne _ _ _)
          | cons p ps => simp
        · rfl
      | false =>
        simp only [Bool.false_eq_true, if_false]
        rw [ih2 last (by omega)]
        cases hc : cutS y 0 r with
        | nil => exact absurd hc (cutS_ne _ _ _)
        | cons p ps =>
          simp only
          congr 1
          have h1 : x[i]? = some c := by
            have := congrArg (·[0]?) h
            simpa using this
          have h2 : (x.drop last).take (i + 1 - last) = (x.drop last).take (i - last) ++ [c] := by
            have e : i + 1 - last = (i - last) + 1 := by omega
            rw [e, List.take_add_one]
            simp only [List.getElem?_drop]
            rw [show last + (i - last) = i by omega, h1]; rfl
          rw [h2]; simp

theorem pieces_eq (b sub : Array UInt8) (h : 0 < sub.size) : (Bytes.between b sub.size (Bytes.occurrences b sub 0 b.size)).map (·.toList) = cutS sub.toList 0 b.toList := by
  rw [between_eq, occ_eq b sub h]
  have hy : sub.toList ≠ [] := by intro q; have := congrArg List.length q; simp at this; simp [this] at h
  have := (betw_cut sub.toList hy b.toList b.toList 0 rfl).2 0 (Nat.le_refl _)
  rw [show sub.size = sub.toList.length by simp, this]
  cases hc : cutS sub.toList 0 b.toList with
  | nil => exact absurd hc (cutS_ne _ _ _)
  | cons p ps => simp

/-- pieces joined by a mark -/
def glue (sep : List UInt8) : List (List UInt8) → List UInt8
  | [] => []
  | [p] => p
  | p :: q :: r => p ++ sep ++ glue sep (q :: r)
theorem glue_cons {sep p : List UInt8} {ps : List (List UInt8)} (h : ps ≠ []) : glue sep (p :: ps) = p ++ sep ++ glue sep ps := by
  cases ps with
  | nil => exact absurd rfl h
  | cons q r => rfl

theorem joined_from (sep : Array UInt8) : ∀ (ps : List (Array UInt8)) (i : Nat) (out : Array UInt8), 0 < i →
    ((ps.zipIdx i).foldl (fun out (x : Array UInt8 × Nat) => (if x.2 > 0 then out ++ sep else out) ++ x.1) out).toList
      = out.toList ++ (ps.map fun p => sep.toList ++ p.toList).flatten
  | [], i, out, _ => by simp
  | p :: ps, i, out, h => by
    rw [List.zipIdx_cons, List.foldl_cons, joined_from sep ps (i + 1) _ (by omega)]
    simp [h]
theorem glue_flat (sep : List UInt8) : ∀ (p : List UInt8) (ps : List (List UInt8)), glue sep (p :: ps) = p ++ (ps.map fun q => sep ++ q).flatten
  | p, [] => by simp [glue]
  | p, q :: r => by rw [glue_cons (by simp), glue_flat sep q r]; simp
theorem joined_eq (sep : Array UInt8) (ps : List (Array UInt8)) : (Bytes.joined sep ps).toList = glue sep.toList (ps.map (·.toList)) := by
  unfold Bytes.joined
  cases ps with
  | nil => rfl
  | cons p ps =>
    rw [List.zipIdx_cons, List.foldl_cons]
    have := joined_from sep ps 1 p (by omega)
    simp only [Nat.zero_add] at this ⊢
    simp only [gt_iff_lt, Nat.lt_irrefl, if_false, Array.empty_append]
    rw [this, List.map_cons, glue_flat]
    simp [List.map_map, Function.comp_def]

/-- a piece that isn't the last loses one CR at its end -/
def trim (p : List UInt8) : List UInt8 := if p.getLast? = some 13 then p.dropLast else p
def clean : List (List UInt8) → List (List UInt8)
  | [] => []
  | [p] => [p]
  | p :: q :: r => trim p :: clean (q :: r)

theorem beqD (a b : UInt8) : (a == b) = decide (b = a) := by
  rw [Bool.eq_iff_iff, beq_iff_eq, decide_eq_true_eq]; exact eq_comm
theorem cut2 (c d : UInt8) (r : List UInt8) : ([13, 10] : List UInt8).isPrefixOf (c :: d :: r) = (decide (c = 13) && decide (d = 10)) := by
  show ((13 == c) && ((10 == d) && true)) = _
  rw [Bool.and_true, beqD, beqD]
theorem short_glue : ∀ x : List UInt8, glue [10] (cutS [13, 10] 0 x) = short x
  | [] => rfl
  | [c] => by
    have : ([13, 10] : List UInt8).isPrefixOf [c] = false := by simp [List.isPrefixOf]
    simp [cutS, this, glue, short]
  | c :: d :: r => by
    have ih := short_glue (d :: r)
    have ih2 := short_glue r
    unfold cutS
    rw [cut2]
    by_cases h : c = 13 ∧ d = 10
    · obtain ⟨rfl, rfl⟩ := h
      simp only [decide_true, Bool.and_self, if_true]
      have e : cutS [13, 10] (([13, 10] : List UInt8).length - 1) (10 :: r) = cutS ([13, 10] : List UInt8) 0 r := by
        show cutS [13, 10] 1 (10 :: r) = _
        rw [cutS]
      rw [e, glue_cons (cutS_ne _ _ _), ih2]
      simp [short]
    · have : (decide (c = 13) && decide (d = 10)) = false := by
        cases q : (decide (c = 13) && decide (d = 10)) with
        | false => rfl
        | true => exact absurd (by simpa using q) h
      rw [this]
      simp only [Bool.false_eq_true, if_false]
      cases hc : cutS [13, 10] 0 (d :: r) with
      | nil => exact absurd hc (cutS_ne _ _ _)
      | cons p ps =>
        rw [hc] at ih
        have e : short (c :: d :: r) = c :: short (d :: r) := by
          rw [short]
          simp only [List.head?_cons, Option.some.injEq]
          rw [if_neg h]
        rw [e, ← ih]
        rw [glue_flat, glue_flat]; rfl

theorem cut1 (c : UInt8) (r : List UInt8) : ([10] : List UInt8).isPrefixOf (c :: r) = decide (c = 10) := by
  show ((10 == c) && true) = _
  rw [Bool.and_true, beqD]
theorem clean_ne {ps : List (List UInt8)} (h : ps ≠ []) : clean ps ≠ [] := by
  match ps, h with
  | [p], _ => simp [clean]
  | p :: q :: r, _ => simp [clean]
theorem clean_cons {p : List UInt8} {ps : List (List UInt8)} (h : ps ≠ []) : clean (p :: ps) = trim p :: clean ps := by
  cases ps with
  | nil => exact absurd rfl h
  | cons q r => rfl
theorem long_cons (c : UInt8) (r : List UInt8) : long (c :: r) = if c = 10 then 13 :: 10 :: long r else if c = 13 ∧ r.head? = some 10 then long r else c :: long r := by
  unfold long
  by_cases h : c = 13 ∧ r.head? = some 10
  · rw [short, if_pos h, if_pos h, if_neg (by obtain ⟨rfl, _⟩ := h; decide)]
  · rw [short, if_neg h, if_neg h, expand]
/-- the first piece: empty just where the text begins with LF or is empty -/
theorem cut1_nil {x : List UInt8} {ps : List (List UInt8)} (h : cutS [10] 0 x = [] :: ps) (hp : ps ≠ []) : x.head? = some 10 := by
  cases x with
  | nil => rw [cutS] at h; cases h; exact absurd rfl hp
  | cons c r =>
    rw [cutS, cut1] at h
    by_cases hc : c = 10
    · rw [hc]; rfl
    · simp only [hc, decide_false, Bool.false_eq_true, if_false] at h
      cases hq : cutS [10] 0 r with
      | nil => rw [hq] at h; simp at h
      | cons p q => rw [hq] at h; simp at h
theorem cut1_head {x p : List UInt8} {ps : List (List UInt8)} (h : cutS [10] 0 x = p :: ps) (hp : p ≠ []) : x.head? ≠ some 10 := by
  cases x with
  | nil => simp
  | cons c r =>
    rw [cutS, cut1] at h
    by_cases hc : c = 10
    · simp only [hc, decide_true, if_true] at h
      cases h; exact absurd rfl hp
    · simpa using hc
theorem trim_cons {c : UInt8} {p : List UInt8} (h : p ≠ []) : trim (c :: p) = c :: trim p := by
  unfold trim
  cases p with
  | nil => exact absurd rfl h
  | cons d r =>
    rw [List.getLast?_cons_cons]
    split <;> simp
theorem long_glue : ∀ x : List UInt8, glue [13, 10] (clean (cutS [10] 0 x)) = long x
  | [] => rfl
  | c :: r => by
    have ih := long_glue r
    rw [long_cons]
    rw [cutS, cut1]
    by_cases hc : c = 10
    · subst hc
      simp only [decide_true, if_true]
      have e : cutS [10] (([10] : List UInt8).length - 1) r = cutS ([10] : List UInt8) 0 r := rfl
      rw [e, clean_cons (cutS_ne _ _ _), glue_cons (clean_ne (cutS_ne _ _ _)), ih]
      rfl
    · simp only [hc, decide_false, Bool.false_eq_true, if_false]
      cases hq : cutS [10] 0 r with
      | nil => exact absurd hq (cutS_ne _ _ _)
      | cons p ps =>
        rw [hq] at ih
        simp only
        by_cases hps : ps = []
        · subst hps
          have hr : r.head? ≠ some 10 := by
            cases r with
            | nil => simp
            | cons d r' =>
              intro q
              have hd : d = 10 := by simpa using q
              subst hd
              rw [cutS, cut1] at hq
              simp only [decide_true, if_true] at hq
              injection hq with _ q2
              exact absurd q2 (cutS_ne _ _ _)
          rw [if_neg (fun q => hr q.2), ← ih]
          simp [clean, glue]
        · rw [clean_cons hps, glue_cons (clean_ne hps)] at ih ⊢
          by_cases hp : p = []
          · subst hp
            have hr := cut1_nil hq hps
            by_cases h13 : c = 13
            · subst h13
              rw [if_pos ⟨rfl, hr⟩, ← ih]
              simp [trim]
            · rw [if_neg (fun q => h13 q.1), ← ih]
              simp [trim, h13]
          · rw [if_neg (fun q => cut1_head hq hp q.2), ← ih, trim_cons hp]
            rfl
end Mine
end
section
open PySem PySem.Builtin
namespace Mine

def firstAt (y : List UInt8) : Nat → List UInt8 → Option Nat
  | _, [] => none
  | i, c :: r => if y.isPrefixOf (c :: r) then some i else firstAt y (i + 1) r

theorem firstAt_short {y : List UInt8} : ∀ (x : List UInt8) (i : Nat), x.length < y.length → firstAt y i x = none
  | [], _, _ => rfl
  | c :: r, i, h => by
    have h1 : r.length < y.length := by simp at h; omega
    unfold firstAt
    have : y.isPrefixOf (c :: r) = false := by
      cases hp : y.isPrefixOf (c :: r) with
      | false => rfl
      | true => have := (List.isPrefixOf_iff_prefix.mp hp).length_le; omega
    rw [this]
    simpa using firstAt_short r (i + 1) h1
theorem find_from (b sub : Array UInt8) (h : 0 < sub.size) : ∀ (cnt i : Nat), i + cnt + sub.size = b.size + 1 →
    (List.range' i cnt).find? (fun i => b.extract i (i + sub.size) == sub) = firstAt sub.toList i (b.toList.drop i)
  | 0, i, e => by
    have : (b.toList.drop i).length < sub.toList.length := by simp; omega
    simp [firstAt_short _ _ this]
  | cnt + 1, i, e => by
    have hi : i < b.toList.length := by simp; omega
    obtain ⟨c, r, hcr⟩ : ∃ c r, b.toList.drop i = c :: r := ⟨_, _, List.drop_eq_getElem_cons hi⟩
    have hr : r = b.toList.drop (i + 1) := by rw [← List.drop_drop, hcr]; rfl
    rw [List.range'_succ, List.find?_cons, ext_list, hcr, firstAt]
    cases hp : sub.toList.isPrefixOf (c :: r) with
    | true => simp
    | false =>
      simp only [Bool.false_eq_true, if_false]
      rw [find_from b sub h cnt (i + 1) (by omega), ← hr]
theorem find_eq (b sub : Array UInt8) (h : 0 < sub.size) : Bytes.find? b sub 0 b.size = firstAt sub.toList 0 b.toList := by
  unfold Bytes.find?
  by_cases hs : sub.size ≤ b.size + 1
  · have := find_from b sub h (b.size + 1 - sub.size) 0 (by omega)
    simp only [Nat.zero_add, Nat.add_zero, List.map_id'] at this ⊢
    rw [List.range_eq_range']
    simpa using this
  · have e : b.size + 1 - (0 + sub.size) = 0 := by omega
    rw [e]
    have : b.toList.length < sub.toList.length := by simp; omega
    simp [firstAt_short _ _ this]

theorem first_cl : ∀ (x : List UInt8) (i : Nat), (firstAt [13, 10] i x).isSome = hasCL x
  | [], _ => rfl
  | [c], i => by simp [firstAt, hasCL, List.isPrefixOf]
  | c :: d :: r, i => by
    rw [firstAt, cut2, hasCL]
    have := first_cl (d :: r) (i + 1)
    by_cases h : (decide (c = 13) && decide (d = 10)) = true
    · rw [h]; simp only [if_true, Option.isSome_some]
      simp only [List.head?_cons, Option.some.injEq]
      rw [h]; rfl
    · have h' : (decide (c = 13) && decide (d = 10)) = false := by simpa using h
      rw [h']
      simp only [Bool.false_eq_true, if_false, List.head?_cons, Option.some.injEq]
      rw [h', this]; rfl
theorem cutc (k c : UInt8) (r : List UInt8) : ([k] : List UInt8).isPrefixOf (c :: r) = decide (c = k) := by
  show ((k == c) && true) = _
  rw [Bool.and_true, beqD]
theorem first_one (k : UInt8) : ∀ (x : List UInt8) (i : Nat), (firstAt [k] i x).isSome = x.contains k
  | [], _ => rfl
  | c :: r, i => by
    rw [firstAt, cutc, List.contains_cons, beqD]
    by_cases h : c = k
    · simp [h]
    · simp [h, first_one k r (i + 1)]
theorem first_get (k : UInt8) : ∀ (x : List UInt8) (i j : Nat), firstAt [k] i x = some j → i ≤ j ∧ x[j - i]? = some k ∧ ∀ n, n < j - i → x[n]? ≠ some k
  | [], _, _, h => by cases h
  | c :: r, i, j, h => by
    rw [firstAt, cutc] at h
    by_cases hc : c = k
    · simp only [hc, decide_true, if_true] at h
      cases h
      simp [hc]
    · simp only [hc, decide_false, Bool.false_eq_true, if_false] at h
      obtain ⟨h1, h2, h3⟩ := first_get k r (i + 1) j h
      refine ⟨by omega, ?_, fun n hn => ?_⟩
      · have : j - i = (j - (i + 1)) + 1 := by omega
        rw [this]; simpa using h2
      · cases n with
        | zero => simpa using hc
        | succ n => simpa using h3 n (by omega)

/-- a text's first 8,000 octets hold a zero -/
def isBin (l : List UInt8) : Bool := (l.take 8000).contains 0

def lead (m : Nat) : List UInt8 := List.replicate m 120
theorem short_lead (m : Nat) (b : List UInt8) : short (lead m ++ b) = lead m ++ short b := by
  induction m with
  | zero => rfl
  | succ m ih =>
    show short (120 :: (lead m ++ b)) = 120 :: (lead m ++ short b)
    rw [short, if_neg (fun h => absurd h.1 (by decide)), ih]
theorem long_lead (m : Nat) (b : List UInt8) : long (lead m ++ b) = lead m ++ long b := by
  induction m with
  | zero => rfl
  | succ m ih =>
    show long (120 :: (lead m ++ b)) = 120 :: (lead m ++ long b)
    rw [long_cons, if_neg (by decide), if_neg (fun h => absurd h.1 (by decide)), ih]
theorem has_lead (m : Nat) (b : List UInt8) : hasCL (lead m ++ b) = hasCL b := by
  induction m with
  | zero => rfl
  | succ m ih =>
    show hasCL (120 :: (lead m ++ b)) = _
    rw [hasCL, ih]; rfl
theorem cr_lead (m : Nat) (b : List UInt8) : (lead m ++ b).contains 13 = b.contains 13 := by
  rw [Bool.eq_iff_iff]
  simp [lead]

theorem short_len : ∀ l : List UInt8, (short l).length ≤ l.length
  | [] => Nat.le_refl _
  | c :: r => by
    have := short_len r
    rw [short]
    split <;> simp <;> omega
theorem expand_len : ∀ l : List UInt8, (expand l).length ≤ 2 * l.length
  | [] => Nat.le_refl _
  | c :: r => by
    have := expand_len r
    rw [expand]
    split <;> simp <;> omega
theorem long_len (l : List UInt8) : (long l).length ≤ 2 * l.length := by
  have := expand_len (short l); have := short_len l; unfold long; omega
theorem short_none : ∀ {l : List UInt8}, hasCL l = false → short l = l
  | [], _ => rfl
  | c :: r, h => by
    rw [hasCL, Bool.or_eq_false_iff] at h
    rw [short, short_none h.2, if_neg]
    intro q
    have := h.1
    simp [q.1, q.2] at this
theorem expand_head (l : List UInt8) : (expand l).head? ≠ some 10 := by
  cases l with
  | nil => simp [expand]
  | cons c r =>
    rw [expand]
    split
    · simp
    · simpa using ‹¬ c = 10›
theorem short_expand : ∀ l : List UInt8, short (expand l) = l
  | [] => rfl
  | c :: r => by
    have ih := short_expand r
    rw [expand]
    by_cases h : c = 10
    · subst h
      simp only [if_true]
      rw [short, if_pos ⟨rfl, rfl⟩, short, if_neg (fun q => absurd q.1 (by decide)), ih]
    · rw [if_neg h, short, if_neg (fun q => absurd q.2 (expand_head r)), ih]
theorem short_long (l : List UInt8) : short (long l) = short l := short_expand _
theorem has_lf : ∀ {l : List UInt8}, hasCL l = true → (10 : UInt8) ∈ short l
  | [], h => by cases h
  | c :: r, h => by
    rw [hasCL, Bool.or_eq_true] at h
    rw [short]
    by_cases q : c = 13 ∧ r.head? = some 10
    · rw [if_pos q]
      cases r with
      | nil => simp at q
      | cons d r' =>
        have hd : d = 10 := by simpa using q.2
        subst hd
        rw [short, if_neg (fun z => absurd z.1 (by decide))]
        simp
    · rw [if_neg q]
      rcases h with h | h
      · exact absurd (by simpa using h) q
      · exact List.mem_cons_of_mem _ (has_lf h)
theorem expand_cl : ∀ {l : List UInt8}, (10 : UInt8) ∈ l → hasCL (expand l) = true
  | c :: r, h => by
    rw [expand]
    by_cases q : c = 10
    · simp [q, hasCL]
    · rw [if_neg q, hasCL]
      rcases List.mem_cons.mp h with h | h
      · exact absurd h.symm q
      · rw [expand_cl h]; simp
theorem has_long {l : List UInt8} (h : hasCL l = true) : hasCL (long l) = true := expand_cl (has_lf h)

/-- what the check finds: the turn back doesn't give the octets -/
def bad (o c : List UInt8) : Bool :=
  if hasCL o && !hasCL c then long c != o
  else if o.contains 10 && hasCL c && !hasCL o then short c != o
  else false
theorem bad_long (o : List UInt8) : bad o (long o) = false := by
  unfold bad
  cases h : hasCL o with
  | true => rw [has_long h]; simp
  | false =>
    rw [short_long, short_none h]
    simp
theorem bad_short (o : List UInt8) : bad o (short o) = (hasCL o && !hasCL (short o) && long (short o) != o) := by
  unfold bad
  cases h : hasCL o with
  | true =>
    cases h2 : hasCL (short o) <;> simp
  | false =>
    rw [short_none h, h]
    simp
theorem bad_lead (m : Nat) (b : List UInt8) : bad (lead m ++ b) (short (lead m ++ b)) = (hasCL b && !hasCL (short b) && long (short b) != b) := by
  rw [bad_short, short_lead, long_lead, has_lead, has_lead]
  congr 1
  rw [Bool.eq_iff_iff]
  simp

theorem bin_lead (m : Nat) (b : List UInt8) : isBin (lead m ++ b) = (match firstAt [0] 0 b with | none => false | some z => decide (m + z < 8000)) := by
  unfold isBin
  cases h : firstAt [0] 0 b with
  | none =>
    have h0 := first_one 0 b 0
    rw [h] at h0
    have h1 : (0 : UInt8) ∉ b := by
      intro q
      rw [← List.contains_iff_mem, ← h0] at q
      cases q
    cases hc : (List.take 8000 (lead m ++ b)).contains 0 with
    | false => rfl
    | true =>
      have := List.mem_of_mem_take (List.contains_iff_mem.mp hc)
      simp [lead] at this
      exact absurd this h1
  | some z =>
    obtain ⟨_, h2, h3⟩ := first_get 0 b 0 z h
    rw [Nat.sub_zero] at h2 h3
    simp only
    rw [Bool.eq_iff_iff, List.contains_iff_mem, decide_eq_true_eq, List.mem_iff_getElem?]
    constructor
    · rintro ⟨i, hi⟩
      rw [List.getElem?_take] at hi
      split at hi
      · rename_i hi8
        by_cases q : i < m
        · rw [List.getElem?_append_left (by simpa [lead] using q)] at hi
          simp [lead, q] at hi
        · rw [List.getElem?_append_right (by simpa [lead] using q)] at hi
          simp only [lead, List.length_replicate] at hi
          by_cases hz : i - m < z
          · exact absurd hi (h3 _ hz)
          · omega
      · cases hi
    · intro hz
      refine ⟨m + z, ?_⟩
      rw [List.getElem?_take, if_pos hz, List.getElem?_append_right (by simp [lead])]
      simpa [lead] using h2

/-- the law's own short walk: the items whose pair is no CRLF -/
theorem short_range : ∀ l : List UInt8, ((List.range l.length).filter (fun k => decide ((l.drop k).take 2 ≠ [13, 10]))).map (fun k => l.getD k 0) = short l
  | [] => rfl
  | c :: r => by
    have ih := short_range r
    rw [List.length_cons, List.range_succ_eq_map, List.filter_cons, List.filter_map]
    have e : ((fun k => decide (((c :: r).drop k).take 2 ≠ [13, 10])) ∘ Nat.succ) = fun k => decide ((r.drop k).take 2 ≠ [13, 10]) := by
      funext k; simp
    have e2 : List.map (fun k => (c :: r).getD k 0) (List.map Nat.succ ((List.range r.length).filter (fun k => decide ((r.drop k).take 2 ≠ [13, 10])))) = short r := by
      rw [List.map_map, ← ih]
      congr 1
    rw [short]
    rw [e]
    by_cases q : c = 13 ∧ r.head? = some 10
    · have : decide (((c :: r).drop 0).take 2 ≠ [13, 10]) = false := by
        obtain ⟨rfl, q2⟩ := q
        cases r with
        | nil => simp at q2
        | cons d r' =>
          have : d = 10 := by simpa using q2
          subst this; simp
      rw [if_neg (by rw [this]; exact Bool.false_ne_true), if_pos q]
      exact e2
    · have : decide (((c :: r).drop 0).take 2 ≠ [13, 10]) = true := by
        rw [decide_eq_true_eq]
        intro h
        cases r with
        | nil => simp at h
        | cons d r' =>
          simp at h
          exact q ⟨h.1, by simp [h.2]⟩
      rw [if_pos this, if_neg q, List.map_cons, e2]
      rfl

/-- the law's own long walk -/
def longP : Bool → List UInt8 → List UInt8
  | _, [] => []
  | p, c :: r => (if c = 10 ∧ p = false then [13] else []) ++ c :: longP (decide (c = 13)) r
theorem longP_eq : ∀ (l : List UInt8), longP false l = long l ∧ (longP true l = if l.head? = some 10 then (long l).tail else long l)
  | [] => ⟨rfl, rfl⟩
  | c :: r => by
    obtain ⟨ih1, ih2⟩ := longP_eq r
    rw [longP, longP, long_cons]
    by_cases h : c = 10
    · subst h
      simp [ih1]
    · by_cases h13 : c = 13
      · subst h13
        simp only [show ¬ ((13 : UInt8) = 10) by decide, false_and, if_false, List.nil_append, decide_true, true_and, ih2, List.head?_cons, Option.some.injEq]
        cases r with
        | nil => simp
        | cons d r' =>
          by_cases hd : d = 10
          · subst hd
            rw [long_cons]; simp
          · simp [hd]
      · simp [h, h13, ih1]
/-- what the law lays at the place k -/
def putAt (l : List UInt8) (k : Nat) : List UInt8 := (if l.getD k 0 = 10 ∧ (k = 0 ∨ l.getD (k - 1) 0 ≠ 13) then [13] else []) ++ [l.getD k 0]
theorem putAt_from (l : List UInt8) : ∀ (n i : Nat), i + n = l.length →
    (List.range' i n).flatMap (putAt l) = longP (decide (0 < i ∧ l.getD (i - 1) 0 = 13)) (l.drop i)
  | 0, i, e => by
    have : l.drop i = [] := List.drop_eq_nil_of_le (by omega)
    rw [this]; rfl
  | n + 1, i, e => by
    have hi : i < l.length := by omega
    rw [List.range'_succ, List.flatMap_cons, putAt_from l n (i + 1) (by omega), List.drop_eq_getElem_cons hi, longP]
    have hg : l.getD i 0 = l[i] := by simp [List.getD_eq_getElem?_getD, hi]
    have e1 : (decide (0 < i + 1 ∧ l.getD (i + 1 - 1) 0 = 13)) = decide (l[i] = 13) := by
      rw [Nat.add_sub_cancel, hg]; simp
    rw [e1]
    unfold putAt
    rw [hg]
    by_cases h10 : l[i] = 10
    · by_cases h0 : i = 0
      · subst h0; simp [h10]
      · have : 0 < i := by omega
        simp [h10, h0, this]
    · simp [h10]
theorem putAt_eq (l : List UInt8) : (List.range l.length).flatMap (putAt l) = long l := by
  rw [List.range_eq_range', putAt_from l l.length 0 (by omega)]
  simpa using (longP_eq l).1
theorem putAt_len (l : List UInt8) (n : Nat) : ((List.range n).flatMap (putAt l)).length ≤ 2 * n := by
  induction n with
  | zero => simp
  | succ n ih =>
    rw [List.range_succ, List.flatMap_append, List.length_append]
    have : ([n].flatMap (putAt l)).length ≤ 2 := by
      simp only [List.flatMap_cons, List.flatMap_nil, List.append_nil]
      unfold putAt
      split <;> simp
    omega
end Mine
end
section
open PySem PySem.Builtin PySem.W PySem.Calls PyProof.Rows
namespace Mine

theorem noIdx : typeLookup (.type "bytes") "__index__" = pure none := by rw [typeLookup_type, builtinLookup_eq_fast]; kernel_rfl

section
variable {M : Model} {A : Around} {E : Value → Shared → Prop} {s : Shared}
theorem name_bytes {n : Nat} {b : Array UInt8} {t : Tok} {Q : String → Shared → Prop} (h : Q "bytes" s) : wpAny M A (typeNameOfCut n (.bytes b t)) Q E s := by
  unfold typeNameOfCut shownTypeOf
  refine wpAny_bind (wpAny_bind (wpAny_typeOf (typeIs_bytes _ b t) ?_))
  simp only [show (Value.type "bytes" == Value.type "builtin_function_or_method") = false by decide, Bool.false_eq_true, if_false]
  refine wpAny_pure ?_
  rw [show typeNameCut n (.type "bytes") = typeName (.type "bytes") from rfl]
  rw [show typeName (.type "bytes") = pure "bytes" from by kernel_rfl]; exact wpAny_pure h
theorem asIndex_bytes {b : Array UInt8} {t : Tok} {Q : Int → Shared → Prop} (hh : A.handled = none)
    (h : ∀ h' tk e, (∀ a o, s.heap.get? a = some o → h'.get? a = some o) → E (.ref e) { s with heap := h', toks := tk }) : wpAny M A (asIndex (.bytes b t)) Q E s := by
  unfold asIndex
  refine wpAny_bind (wpAny_of_eq (a := none) rfl ?_)
  refine wpAny_bind (wpAny_callSpecial?_none (typeIs_bytes s b t) noIdx ?_)
  refine wpAny_bind (name_bytes ?_)
  exact wpAny_raiseErrorMade plainExc_TypeError hh (fun h' tk e x => h h' tk e x.keeps) (by rw [sizeLine_eq]; decide +kernel)
end

theorem meets_contains (b x : Array UInt8) (t u : Tok) : Meets («bytes.__contains__» ⟨[.bytes b t, .bytes x u], []⟩) (fun A R s => A.handled = none ∧
    ∀ h' tk, (∀ a o, s.heap.get? a = some o → h'.get? a = some o) → R (.ok (.ret (.bool (Bytes.find? b x 0 b.size).isSome))) { s with heap := h', toks := tk }) := by
  refine .of_wp fun prog w A R s hS => ?_
  obtain ⟨hh, h⟩ := hS
  show wpAny _ _ (Bytes.containsIn "bytes.__contains__" (.bytes b t) (.bytes x u) >>= fun r => _) _ _ s
  refine wpAny_bind ?_
  unfold Bytes.containsIn
  refine wpAny_bind (wpAny_attempt (asIndex_bytes hh fun h' tk e k => ?_))
  refine wpAny_bind (wpAny_of_eq KBy.buffer_eq ?_)
  refine wpAny_bind (wpAny_of_eq KBy.buffer_eq ?_)
  refine wpAny_bind (wpAny_rule (wpAny_pure (wpAny_pure ⟨_, rfl, h h' tk k⟩)))

section
variable {prog : Program} {w : World} {A : Around} {E : Value → Shared → Prop} {s : Shared} {b x : Array UInt8} {t u : Tok} {h₀ : Heap} {L : Addr} {m : PySem.Str → Option Value} {news : List (Addr × Obj)}
theorem in_bytes {r : Bool} {Q : Value → Shared → Prop} (hh : A.handled = none) (F : Fr h₀ L s.heap m) (N : News h₀ L s.heap news) (e : (Bytes.find? b x 0 b.size).isSome = r)
    (h : ∀ h' tk, Fr h₀ L h' m → News h₀ L h' news → Q (.bool r) { s with heap := h', toks := tk }) : wpAny (model prog w) A (compareOp .In (.bytes x u) (.bytes b t)) Q E s := by
  show wpAny _ _ (do return .bool (← contains (.bytes b t) (.bytes x u))) Q E s
  refine wpAny_bind (wpAny_contains_slot (typeIs_bytes s b t) FB.slot_bytes_contains (call_meets FB.slot_bytes_contains (typeIs_bytes s b t) FB.entry_bytes_contains (FB.args_bytes_contains_2 _ _) (meets_contains b x t u) ⟨hh, fun h' tk k => ?_⟩))
  rw [e]
  exact wpAny_truthy_bool (wpAny_pure (h h' tk (F.keeps k) fun p hp => ⟨k _ _ (N p hp).1, (N p hp).2⟩))
theorem notin_bytes {r : Bool} {Q : Value → Shared → Prop} (hh : A.handled = none) (F : Fr h₀ L s.heap m) (N : News h₀ L s.heap news) (e : (Bytes.find? b x 0 b.size).isSome = r)
    (h : ∀ h' tk, Fr h₀ L h' m → News h₀ L h' news → Q (.bool (!r)) { s with heap := h', toks := tk }) : wpAny (model prog w) A (compareOp .NotIn (.bytes x u) (.bytes b t)) Q E s := by
  show wpAny _ _ (do return .bool (!(← contains (.bytes b t) (.bytes x u)))) Q E s
  refine wpAny_bind (wpAny_contains_slot (typeIs_bytes s b t) FB.slot_bytes_contains (call_meets FB.slot_bytes_contains (typeIs_bytes s b t) FB.entry_bytes_contains (FB.args_bytes_contains_2 _ _) (meets_contains b x t u) ⟨hh, fun h' tk k => ?_⟩))
  rw [e]
  exact wpAny_truthy_bool (wpAny_pure (h h' tk (F.keeps k) fun p hp => ⟨k _ _ (N p hp).1, (N p hp).2⟩))
end
end Mine
end
section
open PySem PySem.Builtin PySem.W PySem.Calls PyProof.Rows
namespace Mine

theorem slot_find : Slot "bytes" "find" "bytes.find" :=
  .of (owner := "bytes") (n := "find") (by rw [typeLookup_type, builtinLookup_eq_fast]; kernel_rfl) (by decide +kernel) (by decide +kernel) (by decide +kernel)
    (by first | exact .inl (by decide +kernel) | exact .inr (by decide +kernel)) (by rw [isSubtype_type]; kernel_rfl)
theorem type_find : typeOf (.builtin "bytes.find") = pure (.type "method_descriptor") := by show builtinType _ = _; rw [builtinType_eq_fast]; kernel_rfl
theorem entry_find : entryFor table "bytes.find" = some Builtin.«bytes.find» := entryFor_of_tree (by kernel_rfl)
theorem args_find (a b : Value) : argsOk "bytes.find" ⟨[a, b], []⟩ := by
  unfold argsOk; rw [signature?_of (id := "bytes.find") (n := ['d', 'n', 'i', 'f']) (o := ['s', 'e', 't', 'y', 'b']) (by kernel_rfl) FB.owner_bytes]; kernel_rfl

theorem slot_replace : Slot "bytes" "replace" "bytes.replace" :=
  .of (owner := "bytes") (n := "replace") (by rw [typeLookup_type, builtinLookup_eq_fast]; kernel_rfl) (by decide +kernel) (by decide +kernel) (by decide +kernel)
    (by first | exact .inl (by decide +kernel) | exact .inr (by decide +kernel)) (by rw [isSubtype_type]; kernel_rfl)
theorem type_replace : typeOf (.builtin "bytes.replace") = pure (.type "method_descriptor") := by show builtinType _ = _; rw [builtinType_eq_fast]; kernel_rfl
theorem entry_replace : entryFor table "bytes.replace" = some Builtin.«bytes.replace» := entryFor_of_tree (by kernel_rfl)
theorem args_replace (a b c : Value) : argsOk "bytes.replace" ⟨[a, b, c], []⟩ := by
  unfold argsOk; rw [signature?_of (id := "bytes.replace") (n := ['e', 'c', 'a', 'l', 'p', 'e', 'r']) (o := ['s', 'e', 't', 'y', 'b']) (by kernel_rfl) FB.owner_bytes]; kernel_rfl

theorem slot_split : Slot "bytes" "split" "bytes.split" :=
  .of (owner := "bytes") (n := "split") (by rw [typeLookup_type, builtinLookup_eq_fast]; kernel_rfl) (by decide +kernel) (by decide +kernel) (by decide +kernel)
    (by first | exact .inl (by decide +kernel) | exact .inr (by decide +kernel)) (by rw [isSubtype_type]; kernel_rfl)
theorem type_split : typeOf (.builtin "bytes.split") = pure (.type "method_descriptor") := by show builtinType _ = _; rw [builtinType_eq_fast]; kernel_rfl
theorem entry_split : entryFor table "bytes.split" = some Builtin.«bytes.split» := entryFor_of_tree (by kernel_rfl)
theorem args_split (a b : Value) : argsOk "bytes.split" ⟨[a, b], []⟩ := by
  unfold argsOk; rw [signature?_of (id := "bytes.split") (n := ['t', 'i', 'l', 'p', 's']) (o := ['s', 'e', 't', 'y', 'b']) (by kernel_rfl) FB.owner_bytes]; kernel_rfl

theorem slot_join : Slot "bytes" "join" "bytes.join" :=
  .of (owner := "bytes") (n := "join") (by rw [typeLookup_type, builtinLookup_eq_fast]; kernel_rfl) (by decide +kernel) (by decide +kernel) (by decide +kernel)
    (by first | exact .inl (by decide +kernel) | exact .inr (by decide +kernel)) (by rw [isSubtype_type]; kernel_rfl)
theorem type_join : typeOf (.builtin "bytes.join") = pure (.type "method_descriptor") := by show builtinType _ = _; rw [builtinType_eq_fast]; kernel_rfl
theorem entry_join : entryFor table "bytes.join" = some Builtin.«bytes.join» := entryFor_of_tree (by kernel_rfl)
theorem args_join (a b : Value) : argsOk "bytes.join" ⟨[a, b], []⟩ := by
  unfold argsOk; rw [signature?_of (id := "bytes.join") (n := ['n', 'i', 'o', 'j']) (o := ['s', 'e', 't', 'y', 'b']) (by kernel_rfl) FB.owner_bytes]; kernel_rfl
theorem args_decode3 (a b c : Value) : argsOk "bytes.decode" ⟨[a, b, c], []⟩ := by
  unfold argsOk; rw [signature?_of (id := "bytes.decode") (n := ['e', 'd', 'o', 'c', 'e', 'd']) (o := ['s', 'e', 't', 'y', 'b']) (by kernel_rfl) FB.owner_bytes]; kernel_rfl

/-- the place of the first run, or -1 -/
def findInt (b x : List UInt8) : Int := match firstAt x 0 b with
  | some i => i
  | none => -1
theorem window_whole (n : Nat) : Bytes.window n none none = (0, (n : Int)) := by
  unfold Bytes.window
  have h : ¬ ((n : Int) < 0) := by omega
  simp [h]

section
variable {prog : Program} {w : World} {A : Around} {E : Value → Shared → Prop} {s : Shared} {t u v : Tok} {h₀ : Heap} {L : Addr} {m : PySem.Str → Option Value} {news : List (Addr × Obj)} {Q : Value → Shared → Prop}

theorem searchArgs_eq (b x : Array UInt8) (t u : Tok) : Bytes.searchArgs .bytes "find" ⟨[.bytes b t, .bytes x u], []⟩ = pure (b, x, if (b.size : Int) - 0 < x.size then none else some (0, b.size)) := by
  unfold Bytes.searchArgs
  show (Bytes.buffer? _ (.bytes x u) >>= fun r => _) = _
  rw [KBy.buffer_eq]
  show (pure (b, x, if (Bytes.window b.size none none).2 - (Bytes.window b.size none none).1 < x.size then none else some ((Bytes.window b.size none none).1.toNat, (Bytes.window b.size none none).2.toNat)) : Sem _) = _
  rw [window_whole]
  rfl
theorem gives_find (b x : Array UInt8) (t u : Tok) (hx : 0 < x.size) : Gives («bytes.find» ⟨[.bytes b t, .bytes x u], []⟩) (.int (findInt b.toList x.toList)) := by
  refine .of_wp fun M A E s Q hq => ?_
  unfold «bytes.find» Bytes.searchM
  rw [searchArgs_eq]
  refine wpAny_bind (wpAny_pure ?_)
  have hf := find_eq b x hx
  unfold findInt at hq
  by_cases hs : (b.size : Int) - 0 < x.size
  · dsimp only
    rw [if_pos hs]
    have : firstAt x.toList 0 b.toList = none := firstAt_short _ _ (by simp; omega)
    rw [this] at hq
    exact wpAny_bind (wpAny_rule (wpAny_bind (wpAny_mkInt (wpAny_pure ⟨_, rfl, hq⟩))))
  · dsimp only
    rw [if_neg hs]
    simp only [Option.bind, Bool.false_eq_true, if_false]
    rw [hf]
    cases hc : firstAt x.toList 0 b.toList with
    | none =>
      rw [hc] at hq
      exact wpAny_bind (wpAny_rule (wpAny_bind (wpAny_mkInt (wpAny_pure ⟨_, rfl, hq⟩))))
    | some i =>
      rw [hc] at hq
      exact wpAny_bind (wpAny_mkInt (wpAny_pure ⟨_, rfl, hq⟩))

theorem find_bytes {b x : Array UInt8} (hx : 0 < x.size) (h : ∀ t' k, Q (.int (findInt b.toList x.toList) t') { s with toks := k }) : wpAny (model prog w) A (call (.builtin "bytes.find") [.bytes b t, .bytes x u]) Q E s :=
  call_gives slot_find (typeIs_bytes s b t) entry_find (args_find _ _) (gives_find b x t u hx) (h _ _)

theorem gives_endswith (b x : Array UInt8) (t u : Tok) : Gives («bytes.endswith» ⟨[.bytes b t, .bytes x u], []⟩) (.val (.bool (x.toList.isSuffixOf b.toList))) := by
  refine .of_wp fun M A E s Q hq => ?_
  show wpAny M A (isInstance (.bytes x u) (.type "tuple") >>= fun r => _) _ E s
  refine wpAny_bind (wpAny_isInstance (b := false) (typeIs_bytes s x u) (by rw [isSubtype_type]; kernel_rfl) ?_)
  show wpAny M A (Bytes.buffer? _ (.bytes x u) >>= fun r => _) _ E s
  refine wpAny_bind (wpAny_of_eq KBy.buffer_eq ?_)
  refine wpAny_pure ⟨_, rfl, ?_⟩
  have key : (if (Bytes.window b.size none none).2 - (Bytes.window b.size none none).1 < x.size then false else if true = true then b.extract ((Bytes.window b.size none none).2.toNat - x.size) (Bytes.window b.size none none).2.toNat == x else b.extract (Bytes.window b.size none none).1.toNat ((Bytes.window b.size none none).1.toNat + x.size) == x) = x.toList.isSuffixOf b.toList := by
    rw [window_whole]
    show (if (b.size : Int) - 0 < x.size then false else if true = true then b.extract ((b.size : Int).toNat - x.size) (b.size : Int).toNat == x else b.extract (0 : Int).toNat ((0 : Int).toNat + x.size) == x) = x.toList.isSuffixOf b.toList
    rw [Bool.eq_iff_iff, List.isSuffixOf_iff_suffix]
    by_cases hs : (b.size : Int) - 0 < x.size
    · rw [if_pos hs]
      constructor
      · intro h; cases h
      · intro h
        have := h.length_le
        simp at this; omega
    · rw [if_neg hs, if_pos rfl, Int.toNat_natCast, beq_iff_eq, List.suffix_iff_eq_drop, ← Array.toList_inj]
      have : b.toList.length - x.toList.length = b.size - x.size := by simp
      rw [this]
      simp only [Array.toList_extract, List.extract_eq_take_drop]
      have e : List.take (b.size - (b.size - x.size)) (List.drop (b.size - x.size) b.toList) = List.drop (b.size - x.size) b.toList := List.take_of_length_le (by simp)
      rw [e]
      exact eq_comm
  rw [← key] at hq
  exact hq
theorem endswith_bytes {b x : Array UInt8} {r : Bool} (e : x.toList.isSuffixOf b.toList = r) (h : Q (.bool r) s) : wpAny (model prog w) A (call (.builtin "bytes.endswith") [.bytes b t, .bytes x u]) Q E s :=
  call_gives FB.slot_bytes_endswith (typeIs_bytes s b t) FB.entry_bytes_endswith (FB.args_bytes_endswith_2 _ _) (gives_endswith b x t u) (by rw [e]; exact h)
end
end Mine
end
section
open PySem PySem.Builtin PySem.W PySem.Calls PyProof.Rows
namespace Mine
theorem like_eq {id : String} {b : Array UInt8} {t : Tok} : Bytes.bytesLike id (.bytes b t) = pure b := KBd.like_eq

theorem wpB_mk {M : Model} {A : Around} {E : Value → Shared → Prop} {s : Shared} {b : Array UInt8} {Q : Value → Shared → Prop} (hz : b.size ≤ 16777216) (h : Q (.bytes b s.toks) { s with toks := s.toks + 1 }) : wpAny M A (mkBytes b) Q E s :=
  wpAny_mkBytes h (by rw [sizeLine_eq]; exact hz)

theorem joined_list (new : Array UInt8) (b old : Array UInt8) (h : 0 < old.size) :
    Bytes.joined new (Bytes.between b old.size (Bytes.occurrences b old 0 b.size)) = (glue new.toList (cutS old.toList 0 b.toList)).toArray := by
  apply Array.toList_inj.mp
  rw [joined_eq, pieces_eq b old h]

theorem occ_nil (b old : Array UInt8) (h : 0 < old.size) (e : (Bytes.occurrences b old 0 b.size).isEmpty = true) : cutS old.toList 0 b.toList = [b.toList] := by
  rw [← pieces_eq b old h, between_eq, List.isEmpty_iff.mp e]
  rfl

theorem meets_replace (b o n : Array UInt8) (t u v : Tok) (ho : 0 < o.size) (hz1 : b.size + (Bytes.occurrences b o 0 b.size).length * n.size ≤ 16777216) (hz : (glue n.toList (cutS o.toList 0 b.toList)).length ≤ 16777216) :
    Meets («bytes.replace» ⟨[.bytes b t, .bytes o u, .bytes n v], []⟩) (fun _ R s => ∀ t' k, R (.ok (.ret (.bytes (glue n.toList (cutS o.toList 0 b.toList)).toArray t'))) { s with toks := k }) := by
  refine .of_wp fun prog w A R s h => ?_
  unfold «bytes.replace» Bytes.replaceM
  show wpAny _ _ (Bytes.bytesLike _ (.bytes o u) >>= fun _ => Bytes.bytesLike _ (.bytes n v) >>= fun _ => Bytes.bytesLike _ (.bytes o u) >>= fun old => Bytes.bytesLike _ (.bytes n v) >>= fun new => _) _ _ s
  rw [like_eq, like_eq]
  refine wpAny_bind (wpAny_pure (wpAny_bind (wpAny_pure (wpAny_bind (wpAny_pure (wpAny_bind (wpAny_pure ?_)))))))
  have hoe : o.isEmpty = false := by
    cases q : o.isEmpty with
    | false => rfl
    | true => rw [Array.isEmpty_iff] at q; subst q; simp at ho
  have e1 : (if o.isEmpty then List.range (b.size + 1) else Bytes.occurrences b o 0 b.size) = Bytes.occurrences b o 0 b.size := by rw [hoe]; rfl
  show wpAny _ _ (if ((if o.isEmpty then List.range (b.size + 1) else Bytes.occurrences b o 0 b.size).isEmpty || (o.isEmpty && n.isEmpty)) = true then _ else _) _ _ s
  rw [e1, hoe, Bool.false_and, Bool.or_false]
  refine wpAny_ite ?_
  split
  · rename_i hp
    have e := occ_nil b o ho hp
    rw [e] at h
    refine wpAny_bind (wpAny_rule ?_)
    refine wpAny_bind ?_
    unfold Bytes.Kind.same
    refine wpAny_bind (wpAny_typeOf (typeIs_bytes s b t) ?_)
    exact wpAny_pure (wpAny_pure ⟨_, rfl, by have := h t s.toks; simpa [glue] using this⟩)
  · rw [if_pos (show (-1 : Int) < 0 by decide), KBy.tooLong_not hz1]
    refine wpAny_ite ?_
    rw [if_neg Bool.false_ne_true, joined_list n b o ho]
    show wpAny _ _ (mkBytes (glue n.toList (cutS o.toList 0 b.toList)).toArray >>= fun r => _) _ _ s
    exact wpAny_bind (wpB_mk (by simpa using hz) (wpAny_pure ⟨_, rfl, h _ _⟩))

section
variable {prog : Program} {w : World} {A : Around} {E : Value → Shared → Prop} {s : Shared} {t u v : Tok} {Q : Value → Shared → Prop}
theorem occ_len (b o : Array UInt8) (h : 0 < o.size) : (Bytes.occurrences b o 0 b.size).length ≤ b.size := by
  rw [occ_eq b o h]
  have : ∀ (x : List UInt8) (i k : Nat), (occS o.toList i k x).length ≤ x.length := by
    intro x
    induction x with
    | nil => intro i k; cases k <;> simp [occS]
    | cons c r ih =>
      intro i k
      cases k with
      | zero =>
        unfold occS
        split
        · simp [ih]
        · have := ih (i + 1) 0; simp; omega
      | succ k => unfold occS; have := ih (i + 1) k; simp; omega
  simpa using this b.toList 0 0
theorem replace_crlf {l : List UInt8} (hl : l.length ≤ 100000) (h : ∀ t' k, Q (.bytes (short l).toArray t') { s with toks := k }) :
    wpAny (model prog w) A (call (.builtin "bytes.replace") [.bytes l.toArray t, .bytes #[13, 10] u, .bytes #[10] v]) Q E s := by
  have e : glue (#[10] : Array UInt8).toList (cutS (#[13, 10] : Array UInt8).toList 0 l.toArray.toList) = short l := short_glue l
  have h1 := short_len l
  have h2 := occ_len l.toArray #[13, 10] (by decide)
  refine call_meets slot_replace (typeIs_bytes s _ t) entry_replace (args_replace _ _ _) (meets_replace l.toArray #[13, 10] #[10] t u v (by decide) ?_ ?_) ?_
  · have e3 : (#[10] : Array UInt8).size = 1 := rfl
    rw [e3]; simp only [List.size_toArray] at h2 ⊢; omega
  · rw [e]; omega
  · intro t' k
    rw [e]; exact h t' k
end
end Mine
end
section
open PySem PySem.Builtin PySem.W PySem.Calls PyProof.Rows
namespace Mine
/-- a list's items are these octets -/
def Kb : ItemKind (List UInt8) := ⟨fun a v => ∃ t, v = .bytes a.toArray t, fun v => match v with | .bytes b _ => some b.toList | _ => none, fun _ _ h => by obtain ⟨t, rfl⟩ := h; rfl⟩
theorem mapM_bytes {M : Model} {A : Around} {E : Value → Shared → Prop} : ∀ (xs : List (Array UInt8)) (s : Shared) (Q : List Value → Shared → Prop), (∀ x ∈ xs, x.size ≤ 16777216) →
    (∀ vs k, AreOf Kb vs (xs.map (·.toList)) → Q vs { s with toks := k }) → wpAny M A (xs.mapM fun x => mkBytes x) Q E s
  | [], s, Q, _, h => by
    rw [List.mapM_nil]
    exact wpAny_pure (h [] s.toks .nil)
  | x :: xs, s, Q, hz, h => by
    rw [List.mapM_cons]
    refine wpAny_bind (wpB_mk (hz x (.head _)) (wpAny_bind ?_))
    refine mapM_bytes xs _ _ (fun y hy => hz y (.tail _ hy)) fun vs k hvs => wpAny_pure ?_
    exact h (.bytes x s.toks :: vs) k (.cons (a := x.toList) ⟨s.toks, by simp⟩ hvs)

theorem meets_split (b o : Array UInt8) (t u : Tok) (ho : 0 < o.size) (hb : b.size ≤ 100000) : Meets («bytes.split» ⟨[.bytes b t, .bytes o u], []⟩) (fun _ R s => ∀ vs k, AreOf Kb vs (cutS o.toList 0 b.toList) →
      R (.ok (.ret (.ref s.heap.objs.size))) { s with heap := s.heap.push (listOf vs.toArray 0), toks := k }) := by
  refine .of_wp fun prog w A R s h => ?_
  unfold «bytes.split» Bytes.splitM
  show wpAny _ _ (Bytes.bytesLike _ (.bytes o u) >>= fun sep => _) _ _ s
  rw [like_eq]
  refine wpAny_bind (wpAny_pure ?_)
  have hoe : o.isEmpty = false := by
    cases q : o.isEmpty with
    | false => rfl
    | true => rw [Array.isEmpty_iff] at q; subst q; simp at ho
  rw [hoe]
  refine wpAny_ite ?_
  rw [if_neg Bool.false_ne_true]
  have hl := occ_len b o ho
  have e1 : (Bytes.occurrences b o 0 b.size).take (if (-1 : Int) < 0 then b.size + 1 else (-1 : Int).toNat) = Bytes.occurrences b o 0 b.size := by
    rw [if_pos (by decide)]
    exact List.take_of_length_le (by omega)
  show wpAny _ _ (if ((Bytes.occurrences b o 0 b.size).take (if (-1 : Int) < 0 then b.size + 1 else (-1 : Int).toNat)).isEmpty = true then _ else _) _ _ s
  rw [e1]
  have hcl : (cutS o.toList 0 b.toList).length ≤ b.size + 1 := by
    rw [← pieces_eq b o ho, between_eq]
    have : ∀ (ps : List Nat) (last : Nat), (betw b.toList o.size last ps).length = ps.length + 1 := by
      intro ps
      induction ps with
      | nil => intro last; rfl
      | cons p ps ih => intro last; simp [betw, ih]
    rw [this]; omega
  refine wpAny_ite ?_
  split
  · rename_i hp
    have e := occ_nil b o ho hp
    rw [e] at h
    refine wpAny_bind (wpAny_rule ?_)
    refine wpAny_bind ?_
    unfold Bytes.Kind.same
    refine wpAny_bind (wpAny_typeOf (typeIs_bytes s b t) ?_)
    refine wpAny_pure (wpAny_bind (wpAny_newList (wpAny_pure ⟨_, rfl, ?_⟩) (by rw [sizeLine_eq]; exact Nat.le_of_ble_eq_true rfl)))
    exact h [.bytes b t] s.toks (.cons ⟨t, by simp⟩ .nil)
  · show wpAny _ _ ((Bytes.between b o.size (Bytes.occurrences b o 0 b.size)).mapM (fun x => mkBytes x) >>= fun r => _) _ _ s
    refine wpAny_bind (mapM_bytes _ _ _ (fun x hx => ?_) fun vs k hvs => ?_)
    · have h1 : x.toList ∈ betw b.toList o.size 0 (Bytes.occurrences b o 0 b.size) := by rw [← between_eq]; exact List.mem_map_of_mem hx
      have : ∀ (ps : List Nat) (last : Nat), ∀ z ∈ betw b.toList o.size last ps, z.length ≤ b.size := by
        intro ps
        induction ps with
        | nil => intro last z hz; simp [betw] at hz; subst hz; simp
        | cons p ps ih =>
          intro last z hz
          rcases List.mem_cons.mp hz with rfl | hz
          · simp; omega
          · exact ih _ z hz
      have := this _ _ _ h1
      simp at this; omega
    · rw [pieces_eq b o ho] at hvs
      have hv : vs.length ≤ b.size + 1 := by
        have : ∀ {vs : List Value} {as : List (List UInt8)}, AreOf Kb vs as → vs.length = as.length := by
          intro vs as h
          induction h with
          | nil => rfl
          | cons _ _ ih => simp [ih]
        rw [this hvs]; exact hcl
      exact wpAny_bind (wpAny_newList (wpAny_pure ⟨_, rfl, h vs k hvs⟩) (by rw [sizeLine_eq]; omega))

theorem AreOf.len {α : Type} {K : ItemKind α} : ∀ {vs : List Value} {as : List α}, AreOf K vs as → vs.length = as.length := by
  intro vs as h
  induction h with
  | nil => rfl
  | cons _ _ ih => simp [ih]
theorem AreOf.get {α : Type} {K : ItemKind α} : ∀ {vs : List Value} {as : List α}, AreOf K vs as → ∀ (i : Nat) (a : α), as[i]? = some a → ∃ v, vs[i]? = some v ∧ K.is a v := by
  intro vs as h
  induction h with
  | nil => intro i a h; cases h
  | cons hk _ ih =>
    intro i a h
    cases i with
    | zero => simp at h; subst h; exact ⟨_, rfl, hk⟩
    | succ i => exact ih i a (by simpa using h)
theorem AreOf.snoc {α : Type} {K : ItemKind α} {v : Value} {a : α} (hk : K.is a v) : ∀ {vs : List Value} {as : List α}, AreOf K vs as → AreOf K (vs ++ [v]) (as ++ [a]) := by
  intro vs as h
  induction h with
  | nil => exact .cons hk .nil
  | cons hk' _ ih => exact .cons hk' ih
theorem cut_len (y : List UInt8) : ∀ (x : List UInt8) (k : Nat), (cutS y k x).length ≤ x.length + 1
  | [], k => by cases k <;> simp [cutS]
  | c :: r, 0 => by
    have h1 := cut_len y r (y.length - 1)
    have h2 := cut_len y r 0
    unfold cutS
    split
    · simp; omega
    · split
      · simp
      · rename_i p ps hc
        rw [hc] at h2
        simp at h2 ⊢; omega
  | c :: r, k + 1 => by
    have h1 := cut_len y r k
    unfold cutS; simp; omega
section
variable {prog : Program} {w : World} {A : Around} {E : Value → Shared → Prop} {s : Shared} {t u v : Tok} {Q : Value → Shared → Prop} {h₀ : Heap} {L : Addr} {m : PySem.Str → Option Value} {news : List (Addr × Obj)}
theorem split_lf {l : List UInt8} (F : Fr h₀ L s.heap m) (N : News h₀ L s.heap news) (hl : l.length ≤ 100000)
    (h : ∀ D vs h' k, AreOf Kb vs (cutS [10] 0 l) → Fr h₀ L h' m → News h₀ L h' ((D, listOf vs.toArray 0) :: news) → (∀ p ∈ news, p.1 < D) → Q (.ref D) { s with heap := h', toks := k }) :
    wpAny (model prog w) A (call (.builtin "bytes.split") [.bytes l.toArray t, .bytes #[10] u]) Q E s := by
  refine call_meets slot_split (typeIs_bytes s _ t) entry_split (args_split _ _) (meets_split l.toArray #[10] t u (by decide) (by simpa using hl)) fun vs k hvs => ?_
  exact h _ vs _ k hvs (F.push _) (N.push F _) fun p hp => Heap.lt_size (N p hp).1
end
end Mine
end
section
open PySem PySem.Builtin PySem.W PySem.Calls PyProof.Rows
namespace Mine
theorem glue_len (sep : List UInt8) : ∀ ps : List (List UInt8), (glue sep ps).length = sep.length * (ps.length - 1) + (ps.map (·.length)).sum
  | [] => by simp [glue]
  | [p] => by simp [glue]
  | p :: q :: r => by
    have := glue_len sep (q :: r)
    rw [glue_cons (by simp)]
    simp only [List.length_append, this, List.length_cons, List.map_cons, List.sum_cons, Nat.add_sub_cancel, Nat.mul_add, Nat.mul_one]
    omega
theorem fold_size : ∀ (ps : List (Array UInt8)) (k : Nat), ps.foldl (fun n p => n + p.size) k = k + ((ps.map (·.toList)).map (·.length)).sum
  | [], k => by simp
  | p :: ps, k => by
    rw [List.foldl_cons, fold_size ps]
    simp; omega
section
variable {M : Model} {A : Around} {E : Value → Shared → Prop} {s : Shared}
theorem joinLetGo_ok {keep : List Value} {Q : Unit → Shared → Prop} : ∀ (taken : List (Value × Option Value)), (∀ p ∈ taken, p.2 = none) → Q () s → wpAny M A (Bytes.joinLetGo taken keep) Q E s
  | [], _, h => wpAny_pure h
  | (x, w) :: rest, hn, h => by
    have hw : w = none := hn (x, w) (.head _)
    subst hw
    unfold Bytes.joinLetGo
    exact wpAny_bind (wpAny_letGo (joinLetGo_ok rest (fun p hp => hn p (.tail _ hp)) h))
theorem take_bytes {id : String} {b : Array UInt8} {t : Tok} {Q : Option (Array UInt8 × Option Value) → Shared → Prop} (h : Q (some (b, none)) s) : wpAny M A (Bytes.takeBufferQuiet? id (.bytes b t) 0) Q E s := by
  unfold Bytes.takeBufferQuiet?
  refine wpAny_bind (wpAny_attempt ?_)
  unfold Bytes.takeBuffer?
  rw [KBy.special_eq KBy.look_buffer, KBy.own_buffer]
  refine wpAny_bind (wpAny_pure ?_)
  refine wpAny_bind (wpAny_pure ?_)
  refine wpAny_bind (wpAny_pure ?_)
  show wpAny M A (Bytes.buffer? id (.bytes b t) _ >>= fun r => _) _ _ s
  have : Bytes.buffer? id (.bytes b t) ((0 : Int) == Bytes.fullReadOnly) = pure (some b) := by
    show Bytes.buffer? id (.bytes b t) false = _
    exact KBy.buffer_eq
  rw [this]
  exact wpAny_bind (wpAny_pure (wpAny_pure (wpAny_pure h)))
theorem forIn_range {β : Type} {n : Nat} {b : β} (f : Nat → β → Sem (ForInStep β)) (I : Nat → β → Shared → Prop) (Q : β → Shared → Prop) (hI : I 0 b s)
    (turn : ∀ i b s, i < n → I i b s → wpAny M A (f i b) (fun r s' => match r with | .yield b' => I (i + 1) b' s' | .done b' => Q b' s') E s)
    (fin : ∀ b s, I n b s → Q b s) : wpAny M A (forIn [:n] b f) Q E s := by
  have e : (forIn [:n] b f : Sem β) = forIn (List.range' 0 n) b f := by
    simp [Std.Legacy.Range.forIn_eq_forIn_range', Std.Legacy.Range.size]
  rw [e]
  refine wpAny_forIn_list f (fun rest b s => ∃ i, rest = List.range' i (n - i) ∧ i ≤ n ∧ I i b s) Q ?_ ?_ _ b ⟨0, by simp, by omega, hI⟩
  · rintro x rest b s ⟨i, hr, hi, hI⟩
    by_cases hin : i < n
    · have : n - i = (n - (i + 1)) + 1 := by omega
      rw [this, List.range'_succ] at hr
      injection hr with h1 h2
      subst h1 h2
      refine wpAny_mono (turn x b s hin hI) (fun r s' h => ?_) fun _ _ e => e
      cases r with
      | yield b' => exact ⟨x + 1, rfl, hin, h⟩
      | done b' => exact h
    · have : n - i = 0 := by omega
      rw [this] at hr; cases hr
  · rintro b s ⟨i, hr, hi, hI⟩
    have : n - i = 0 := by
      cases q : n - i with
      | zero => rfl
      | succ k => rw [q, List.range'_succ] at hr; cases hr
    have : i = n := by omega
    subst this
    exact fin b s hI
end

theorem meets_join (b : Array UInt8) (t : Tok) (l : Addr) : Meets («bytes.join» ⟨[.bytes b t, .ref l], []⟩) (fun _ R s => ∃ vs ps, s.heap.IsList l vs.toArray ∧ AreOf Kb vs ps ∧ (glue b.toList ps).length ≤ 16777216 ∧
      ∀ t' k, R (.ok (.ret (.bytes (glue b.toList ps).toArray t'))) { s with toks := k }) := by
  refine .of_wp fun prog w A R s h => ?_
  obtain ⟨vs, ps, ⟨o, ho, hc, n, hd⟩, hvs, hz, h⟩ := h
  unfold «bytes.join» Bytes.joinM
  show wpAny _ _ (Bytes.joinItems (.ref l) >>= fun seq => _) _ _ s
  refine wpAny_bind ?_
  unfold Bytes.joinItems
  refine wpAny_bind (wpAny_typeOf (T := "list") ⟨o, ho, hc⟩ ?_)
  refine wpAny_pure ?_
  refine wpAny_bind (wpAny_seqItems ho hd ?_)
  dsimp only
  refine wpAny_ite ?_
  rw [if_pos (show (Bytes.Kind.bytes == Bytes.Kind.bytes) = true by decide)]
  by_cases h1 : ∃ x, vs = [x]
  · obtain ⟨x, rfl⟩ := h1
    cases hvs with
    | cons hk hr =>
      cases hr
      obtain ⟨tv, rfl⟩ := hk
      refine wpAny_bind (wpAny_typeOf (typeIs_bytes _ _ _) ?_)
      refine wpAny_ite ?_
      rw [if_pos (show (Value.type "bytes" == Value.type "bytes") = true by decide)]
      exact wpAny_bind (wpAny_rule (wpAny_pure ⟨_, rfl, h tv s.toks⟩))
  have two : vs = [] ∨ ∃ x y r, vs = x :: y :: r := by
    rcases vs with _ | ⟨x, _ | ⟨y, r⟩⟩
    · exact .inl rfl
    · exact absurd ⟨x, rfl⟩ h1
    · exact .inr ⟨x, y, r, rfl⟩
  clear h1
  have hbn : ∀ n : Nat, ¬ ((n != n) = true) := by intro n; simp
  rcases two with rfl | ⟨x, y, r, rfl⟩
  all_goals show wpAny _ _ (forIn _ _ _ >>= _) _ _ _
  all_goals
    refine wpAny_bind (forIn_range _ (fun i st s' => st.1.toList.map (·.toList) = ps.take i ∧ (∀ p ∈ st.2, p.2 = none ∧ p.1.onHeap = false) ∧ s' = s) _ ⟨by simp, (fun p hp => nomatch hp), rfl⟩ ?_ ?_)
    · rintro i ⟨parts, taken⟩ s' hi ⟨h1, h2, rfl⟩
      dsimp only
      refine wpAny_bind (wpAny_seqItems ho hd ?_)
      dsimp only
      have hany : (taken.any fun x => x.1.onHeap) = false := by
        rw [List.any_eq_false]
        intro p hp
        rw [(h2 p hp).2]; exact Bool.false_ne_true
      rw [hany]
      refine wpAny_ite ?_
      rw [if_neg (by decide)]
      have hil : i < ps.length := by rw [← AreOf.len hvs]; exact hi
      obtain ⟨v, hv, tv, hkv⟩ := AreOf.get hvs i ps[i] (by simp [hil])
      have hx : ∀ l : List Value, l[i]? = some v → l.toArray.getD i Value.none = .bytes ps[i].toArray tv := by
        intro l hl
        rw [← hkv]
        simp only [Array.getD_eq_getD_getElem?, List.getElem?_toArray, hl, Option.getD_some]
      rw [hx _ hv]
      refine wpAny_bind (wpAny_holding (take_bytes ?_))
      dsimp only
      refine wpAny_bind (wpAny_seqItems ho hd ?_)
      dsimp only
      refine wpAny_ite ?_
      rw [if_neg (hbn _)]
      refine wpAny_pure ⟨?_, ?_, rfl⟩
      · show (parts.push ps[i].toArray).toList.map (·.toList) = ps.take (i + 1)
        rw [Array.toList_push, List.map_append, h1, List.take_add_one, List.getElem?_eq_getElem hil]; rfl
      · intro p hp
        rcases List.mem_append.mp hp with hp | hp
        · exact h2 p hp
        · rw [List.mem_singleton.mp hp]; exact ⟨rfl, rfl⟩
    · rintro ⟨parts, taken⟩ s' ⟨h1, h2, rfl⟩
      have hall : parts.toList.map (·.toList) = ps := by
        rw [h1]; apply List.take_of_length_le
        rw [← AreOf.len hvs]; simp
      refine wpAny_bind (wpAny_of_eq (a := b) rfl ?_)
      have hsum : parts.foldl (fun n p => n + p.size) (b.size * (parts.size - 1)) = (glue b.toList ps).length := by
        rw [glue_len, ← hall, ← Array.foldl_toList, fold_size]
        simp
      dsimp only
      rw [hsum, KBy.tooLong_not hz]
      refine wpAny_ite ?_
      rw [if_neg Bool.false_ne_true]
      have hj : Bytes.joined b parts.toList = (glue b.toList ps).toArray := by
        apply Array.toList_inj.mp
        rw [joined_eq, hall]
      rw [hj]
      refine wpAny_bind (wpB_mk (by simpa using hz) ?_)
      refine wpAny_bind (wpAny_holding (wpAny_point ?_))
      refine wpAny_bind (joinLetGo_ok _ (fun p hp => (h2 p hp).1) ?_)
      exact wpAny_pure ⟨_, rfl, h _ _⟩
section
variable {prog : Program} {w : World} {A : Around} {E : Value → Shared → Prop} {s : Shared} {t u v : Tok} {Q : Value → Shared → Prop}
theorem join_bytes {b : List UInt8} {l : Addr} {vs : List Value} {ps : List (List UInt8)} (hl : s.heap.IsList l vs.toArray) (hvs : AreOf Kb vs ps) (hz : (glue b ps).length ≤ 16777216)
    (h : ∀ t' k, Q (.bytes (glue b ps).toArray t') { s with toks := k }) : wpAny (model prog w) A (call (.builtin "bytes.join") [.bytes b.toArray t, .ref l]) Q E s :=
  call_meets slot_join (typeIs_bytes s _ t) entry_join (args_join _ _) (meets_join b.toArray t l) ⟨vs, ps, hl, hvs, hz, h⟩
end
end Mine
end
section
open PySem PySem.Builtin PySem.W PySem.Calls PyProof.Rows
namespace Mine
theorem decode_empty (t u v : Tok) : «bytes.decode» ⟨[.bytes #[] t, .str (PySem.Str.ofString "utf-8") u, .str (PySem.Str.ofString "replace") v], []⟩ = (rule "bytes.decode.empty" >>= fun _ => retStr PySem.Str.empty) := by kernel_rfl
theorem meets_decode0 (t u v : Tok) : Meets («bytes.decode» ⟨[.bytes #[] t, .str (PySem.Str.ofString "utf-8") u, .str (PySem.Str.ofString "replace") v], []⟩) (fun _ R s => ∀ t' k, R (.ok (.ret (.str PySem.Str.empty t'))) { s with toks := k }) := by
  refine .of_wp fun prog w A R s h => ?_
  rw [decode_empty]
  refine wpAny_bind (wpAny_rule ?_)
  unfold retStr
  refine wpAny_bind (wpAny_mkStr (wpAny_pure ⟨_, rfl, h _ _⟩) ?_)
  rw [sizeLine_eq]; decide
section
variable {prog : Program} {w : World} {A : Around} {E : Value → Shared → Prop} {s : Shared} {t u v : Tok} {Q : Value → Shared → Prop} {h₀ : Heap} {L : Addr} {m : PySem.Str → Option Value} {news : List (Addr × Obj)}
theorem decode_nil (h : ∀ t' k, Q (.str PySem.Str.empty t') { s with toks := k }) : wpAny (model prog w) A (call (.builtin "bytes.decode") [.bytes #[] t, .str (PySem.Str.ofString "utf-8") u, .str (PySem.Str.ofString "replace") v]) Q E s :=
  call_meets FB.slot_bytes_decode (typeIs_bytes s _ t) FB.entry_bytes_decode (args_decode3 _ _ _) (meets_decode0 t u v) h

end
theorem range_map (i n : Nat) : (List.range n).map (fun (k : Nat) => ((i : Int) + 1 * (k : Int)).toNat) = List.range' i n := by
  rw [List.range_eq_range', List.map_congr_left (g := fun k => i + k) (fun k _ => by omega)]
  rw [List.map_add_range']; simp
theorem filterMap_get (l : List UInt8) : ∀ (n i : Nat), i + n ≤ l.length → (List.range' i n).filterMap (fun k => l[k]?) = (l.drop i).take n
  | 0, i, _ => by simp
  | n + 1, i, h => by
    have hi : i < l.length := by omega
    rw [List.range'_succ, List.filterMap_cons, List.getElem?_eq_getElem hi, filterMap_get l n (i + 1) (by omega)]
    rw [List.drop_eq_getElem_cons hi, List.take_succ_cons]
theorem sliced_eq (b : Array UInt8) (i j : Nat) (hj : j ≤ b.size) : Bytes.sliced b i j 1 = ((b.toList.drop i).take (j - i)).toArray := by
  unfold Bytes.sliced sliceRange
  simp only [Int.zero_lt_one, gt_iff_lt, if_true]
  congr 1
  by_cases h : i < j
  · have h' : (i : Int) < j := by omega
    rw [if_pos h']
    have e : ((((j : Int) - i + 1 - 1) / 1).toNat) = j - i := by omega
    rw [e, range_map]
    have := filterMap_get b.toList (j - i) i (by simp; omega)
    simpa using this
  · have h' : ¬ ((i : Int) < j) := by omega
    rw [if_neg h']
    have : j - i = 0 := by omega
    rw [this]; simp
theorem picked_up (b : Array UInt8) (n : Nat) : KBy.picked b none (some (n : Int)) = (b.toList.take n).toArray := by
  unfold KBy.picked
  have e : sliceBounds none (some (n : Int)) none b.size = (((0 : Nat) : Int), ((min n b.size : Nat) : Int), 1) := by
    unfold sliceBounds
    simp only [Option.getD_none, Int.zero_lt_one, gt_iff_lt, if_true]
    have h : ¬ ((n : Int) < 0) := by omega
    rw [if_neg h]
    have : max (0 : Int) (min (n : Int) (b.size : Int)) = ((min n b.size : Nat) : Int) := by omega
    rw [this]; rfl
  rw [e, sliced_eq _ _ _ (by omega)]
  congr 1
  simp only [List.drop_zero, Nat.sub_zero]
  have : b.size = b.toList.length := by simp
  rw [this]
  symm
  exact List.take_eq_take_min ..
theorem picked_but (b : Array UInt8) : KBy.picked b none (some (-1)) = b.toList.dropLast.toArray := by
  unfold KBy.picked
  have e : sliceBounds none (some (-1)) none b.size = (((0 : Nat) : Int), ((b.size - 1 : Nat) : Int), 1) := by
    unfold sliceBounds
    simp only [Option.getD_none, Int.zero_lt_one, gt_iff_lt, if_true]
    rw [if_pos (by decide)]
    have : max (0 : Int) (min (-1 + (b.size : Int)) (b.size : Int)) = ((b.size - 1 : Nat) : Int) := by omega
    rw [this]; rfl
  rw [e, sliced_eq _ _ _ (by omega)]
  congr 1
  simp only [List.drop_zero, Nat.sub_zero]
  rw [List.dropLast_eq_take]; simp
theorem picked_two (b : Array UInt8) (k : Nat) (hk : k ≤ b.size) : KBy.picked b (some (k : Int)) (some ((k : Int) + 2)) = ((b.toList.drop k).take 2).toArray := by
  unfold KBy.picked
  have e : sliceBounds (some (k : Int)) (some ((k : Int) + 2)) none b.size = ((k : Int), ((min (k + 2) b.size : Nat) : Int), 1) := by
    unfold sliceBounds
    simp only [Option.getD_none, Int.zero_lt_one, gt_iff_lt, if_true]
    have h1 : ¬ ((k : Int) < 0) := by omega
    have h2 : ¬ ((k : Int) + 2 < 0) := by omega
    rw [if_neg h1, if_neg h2]
    have e1 : max (0 : Int) (min (k : Int) (b.size : Int)) = (k : Int) := by omega
    have e2 : max (0 : Int) (min ((k : Int) + 2) (b.size : Int)) = ((min (k + 2) b.size : Nat) : Int) := by omega
    rw [e1, e2]
  rw [e, sliced_eq _ _ _ (by omega)]
  congr 1
  have : min (k + 2) b.size - k = min 2 (b.toList.drop k).length := by simp; omega
  rw [this, ← List.take_eq_take_min]

section
variable {prog : Program} {w : World} {A : Around} {E : Value → Shared → Prop} {s : Shared} {value slice : PySem.Expr} {b r : Array UInt8} {t : Tok} {h₀ : Heap} {L : Addr} {m : PySem.Str → Option Value} {news : List (Addr × Obj)} {l u : Value} {lo hi : Option Int} {Q : Value → Shared → Prop}
theorem slice_any (hF : Fr h₀ L s.heap m) (hN : News h₀ L s.heap news) (hl : IsPart l lo) (hu : IsPart u hi) (e : KBy.picked b lo hi = r) (hz : b.size ≤ 16777216)
    (h : ∀ h' t' k, Fr h₀ L h' m → News h₀ L h' news → Q (.bytes r t') { s with heap := h', toks := k })
    (hs : subscripted slice false (.bytes b t) (.ref s.heap.objs.size) = operate [.ref s.heap.objs.size, .bytes b t] (getItem (.bytes b t) (.ref s.heap.objs.size)) := by with_unfolding_all rfl)
    (ht : ∀ r, letTemporaryGo value (.bytes b t) r = pure () := by intro _; with_unfolding_all rfl) :
    wpAny (model prog w) A (subscriptTail value slice (.bytes b t) (.ref s.heap.objs.size)) Q E { s with heap := s.heap.push { cls := .type "slice", data := .fields #[l, u, .none] } } := by
  subst e
  exact KBc.slice_K hF hN rfl hl hu (by rw [KBw.ints_length]; exact hz) (fun h' t' k F' N' _ => h h' t' k F' N') hs ht
end
theorem store_let {M : Model} {A : Around} {E : Value → Shared → Prop} {s : Shared} {h₀ : Heap} {L : Addr} {m : PySem.Str → Option Value} {news : List (Addr × Obj)} {cn : PySem.Str} {cs : Scope} {a : Addr} {cd : Value} {cl : List (PySem.Str × Addr)} {v : Value} {z : PySem.Str} {R : Unit → Shared → Prop} (F : Fr h₀ L s.heap m) (N : News h₀ L s.heap news)
    (h : ∀ h', let m₂ : PySem.Str → Option Value := (fun y => if y = z then some v else m y); Fr h₀ L h' m₂ → News h₀ L h' news → R () { s with heap := h', toks := s.toks + 1 })
    (hk : cs.kind = .function := by rfl) (hx : (envX cn cs L a cd cl).kindOf z = some .local := by rfl) : wpAny M A (storeName (envX cn cs L a cd cl) z v) R E s := storeX_L F N h hk hx
end Mine
end
section
open PySem PySem.Builtin PySem.W PySem.Calls PyProof.Rows
namespace Mine
local macro_rules | `(tactic| walk_at $s:str) => `(tactic| k_extra $s)
local macro_rules | `(tactic| walk_at "pyIter ref") => `(tactic| k_extra "m_iter")
section
abbrev P0 : Program := PySem.Challenge.rw_iy0006_01.row.prog

section
variable {M : Model} {A : Around} {E : Value → Shared → Prop} {s : Shared} {b : Array UInt8} {t : Tok} {pl : Sem Bool} {Q : Value × List Value → Shared → Prop}
theorem m_find (h : Q (.builtin "bytes.find", [.bytes b t]) s) : wpAny M A (getMethod (.bytes b t) "find" pl) Q E s := by
  with_reducible exact KBd.method_of (.bytes b t) (typeIs_bytes _ _ _) slot_find type_find KBd.noRef h
theorem m_replace (h : Q (.builtin "bytes.replace", [.bytes b t]) s) : wpAny M A (getMethod (.bytes b t) "replace" pl) Q E s := by
  with_reducible exact KBd.method_of (.bytes b t) (typeIs_bytes _ _ _) slot_replace type_replace KBd.noRef h
theorem m_split (h : Q (.builtin "bytes.split", [.bytes b t]) s) : wpAny M A (getMethod (.bytes b t) "split" pl) Q E s := by
  with_reducible exact KBd.method_of (.bytes b t) (typeIs_bytes _ _ _) slot_split type_split KBd.noRef h
theorem m_join (h : Q (.builtin "bytes.join", [.bytes b t]) s) : wpAny M A (getMethod (.bytes b t) "join" pl) Q E s := by
  with_reducible exact KBd.method_of (.bytes b t) (typeIs_bytes _ _ _) slot_join type_join KBd.noRef h
theorem m_endswith (h : Q (.builtin "bytes.endswith", [.bytes b t]) s) : wpAny M A (getMethod (.bytes b t) "endswith" pl) Q E s := by
  with_reducible exact KBd.method_of (.bytes b t) (typeIs_bytes _ _ _) FB.slot_bytes_endswith FB.type_bytes_endswith KBd.noRef h
end
theorem in_cl (l : List UInt8) : (Bytes.find? l.toArray #[13, 10] 0 l.toArray.size).isSome = hasCL l := by
  rw [find_eq _ _ (by decide)]; exact first_cl l 0
theorem in_one (k : UInt8) (l : List UInt8) : (Bytes.find? l.toArray #[k] 0 l.toArray.size).isSome = l.contains k := by
  rw [find_eq _ _ (by exact Nat.zero_lt_one)]; exact first_one k l 0


section
variable {w : World} {p : Program} {loose : List Str} {mean : ExcName → Option Value} {mg mb : Str → Option Value} {dp un : Nat} {gd : Option (List Code)} {cn : Str} {cs : Scope} {a : Addr} {ccd : Value} {cl : List (Str × Addr)} {outer : List Env} {A₀ : Around} {base h₀ : Heap} {L : Addr} {m : Str → Option Value} {s : Shared} {Q E : Value → Shared → Prop} {news : List (Addr × Obj)} {l : List UInt8} {t : Tok}

theorem c_isbin (B : Below A₀ base outer h₀) (F : Fr h₀ L s.heap m) (X : (Mine.hd.heap_39 w.params).In h₀) (N : News h₀ L s.heap news) (T : Top p loose mean mg mb h₀) (hk : cs.kind = .function)
    (hd : dp + 1 < recursionLimit) (hu : un + 30 < cLine) (hl : l.length ≤ 50000) (hret : ∀ h' tk', Fr h₀ L h' m → News h₀ L h' news → Q (.bool (isBin l)) { s with heap := h', toks := tk' }) :
    wpAny (model PySem.Challenge.rw_iy0006_01.row.prog w) (ktrTop dp un gd cn cs L a ccd cl outer) (call (.ref 28) [.bytes l.toArray t]) Q E s := by
  w_top off
  k_with_none
  k_with "getMethod bytes" => (k_here; (first | (with_reducible refine m_find ?_) | (with_reducible refine m_replace ?_) | (with_reducible refine m_split ?_) | (with_reducible refine m_join ?_) | (with_reducible refine m_endswith ?_)))
  k_with "compareOp In bytes bytes" => (k_here; (with_reducible show wpAny _ _ (compareOp CmpOp.In (Value.bytes _ _) (Value.bytes _ _)) _ _ _); k_dflt (refine' in_bytes (by rfl) (by k_asm) (by k_asm) (by first | exact in_cl _ | exact in_one _ _) ?_); intro h' tk' F' N')
  k_with "compareOp NotIn bytes bytes" => (k_here; (with_reducible show wpAny _ _ (compareOp CmpOp.NotIn (Value.bytes _ _) (Value.bytes _ _)) _ _ _); k_dflt (refine' notin_bytes (by rfl) (by k_asm) (by k_asm) (by first | exact in_cl _ | exact in_one _ _) ?_); intro h' tk' F' N')
  k_with "call builtin:bytes.replace" => (k_here; k_dflt (refine replace_crlf (by omega) ?_); intro t' k')
  k_with "subscriptTail" => (k_here; (with_reducible show wpAny _ _ (subscriptTail _ (Expr.Slice _ _ none _) (Value.bytes _ _) (Value.ref _)) _ _ _); (with_reducible rename Fr _ _ _ _ => F'); (with_reducible rename News _ _ _ _ => N'); k_dflt (refine' slice_any (s := ⟨_, _, _, _, _⟩) F' N' (by constructor) (by constructor) (by first | exact picked_up _ 8000 | exact picked_but _ | exact picked_two _ _ (by simp; omega)) (by simp; omega) ?_ ); intro h' t' k' F' N')
  (revert X; k_fill; intro X)
  refine wpAny_call ?_
  k_dflt cell_enter
  k_steps
  all_goals exact hret _ _ (by k_asm) (by k_asm)

theorem c_short (B : Below A₀ base outer h₀) (F : Fr h₀ L s.heap m) (X : (Mine.hd.heap_39 w.params).In h₀) (N : News h₀ L s.heap news) (T : Top p loose mean mg mb h₀) (hk : cs.kind = .function)
    (hd : dp + 1 < recursionLimit) (hu : un + 30 < cLine) (hl : l.length ≤ 50000) (hret : ∀ h' tk' t', Fr h₀ L h' m → News h₀ L h' news → Q (.bytes (short l).toArray t') { s with heap := h', toks := tk' }) :
    wpAny (model PySem.Challenge.rw_iy0006_01.row.prog w) (ktrTop dp un gd cn cs L a ccd cl outer) (call (.ref 125) [.bytes l.toArray t]) Q E s := by
  w_top off
  k_with_none
  k_with "getMethod bytes" => (k_here; (first | (with_reducible refine m_find ?_) | (with_reducible refine m_replace ?_) | (with_reducible refine m_split ?_) | (with_reducible refine m_join ?_) | (with_reducible refine m_endswith ?_)))
  k_with "compareOp In bytes bytes" => (k_here; (with_reducible show wpAny _ _ (compareOp CmpOp.In (Value.bytes _ _) (Value.bytes _ _)) _ _ _); k_dflt (refine' in_bytes (by rfl) (by k_asm) (by k_asm) (by first | exact in_cl _ | exact in_one _ _) ?_); intro h' tk' F' N')
  k_with "compareOp NotIn bytes bytes" => (k_here; (with_reducible show wpAny _ _ (compareOp CmpOp.NotIn (Value.bytes _ _) (Value.bytes _ _)) _ _ _); k_dflt (refine' notin_bytes (by rfl) (by k_asm) (by k_asm) (by first | exact in_cl _ | exact in_one _ _) ?_); intro h' tk' F' N')
  k_with "call builtin:bytes.replace" => (k_here; k_dflt (refine replace_crlf (by omega) ?_); intro t' k')
  k_with "subscriptTail" => (k_here; (with_reducible show wpAny _ _ (subscriptTail _ (Expr.Slice _ _ none _) (Value.bytes _ _) (Value.ref _)) _ _ _); (with_reducible rename Fr _ _ _ _ => F'); (with_reducible rename News _ _ _ _ => N'); k_dflt (refine' slice_any (s := ⟨_, _, _, _, _⟩) F' N' (by constructor) (by constructor) (by first | exact picked_up _ 8000 | exact picked_but _ | exact picked_two _ _ (by simp; omega)) (by simp; omega) ?_ ); intro h' t' k' F' N')
  (revert X; k_fill; intro X)
  refine wpAny_call ?_
  k_dflt cell_enter
  k_steps
  all_goals exact hret _ _ _ (by k_asm) (by k_asm)
end
end
section
theorem clean_len : ∀ ps : List (List UInt8), (clean ps).length = ps.length
  | [] => rfl
  | [p] => rfl
  | p :: q :: r => by
    have := clean_len (q :: r)
    simp [clean] at this ⊢; exact this
theorem clean_get : ∀ (ps : List (List UInt8)) (i : Nat) (p : List UInt8), ps[i]? = some p → (clean ps)[i]? = some (if i + 1 < ps.length then trim p else p)
  | [], i, p, h => by cases h
  | [q], i, p, h => by
    cases i with
    | zero => simpa [clean] using h
    | succ i => cases h
  | q :: q2 :: r, i, p, h => by
    cases i with
    | zero => simp at h; subst h; simp [clean]
    | succ i =>
      have := clean_get (q2 :: r) i p (by simpa using h)
      rw [clean, List.getElem?_cons_succ, this]
      have e : (i + 1 + 1 < (q :: q2 :: r).length) = (i + 1 < (q2 :: r).length) := by simp
      simp only [e]
theorem suffix_cr (p : List UInt8) : ([13] : List UInt8).isSuffixOf p = decide (p.getLast? = some 13) := by
  rw [Bool.eq_iff_iff, List.isSuffixOf_iff_suffix, decide_eq_true_eq]
  constructor
  · rintro ⟨t, rfl⟩; simp
  · intro h
    obtain ⟨ys, rfl⟩ := List.getLast?_eq_some_iff.mp h
    exact ⟨ys, rfl⟩

/-- two frames that part at two names alone -/
def Agree2 (x y : PySem.Str) (m m' : PySem.Str → Option Value) : Prop := ∀ z, z ≠ x → z ≠ y → m z = m' z

/-- a turn's end -/
def EndClean (h₀ : Heap) (L : Addr) (m : PySem.Str → Option Value) (xi xc : PySem.Str) (c : Addr) (rest : List (Addr × Obj)) (target : List (List UInt8)) (s : Shared) (f : Flow) (s₂ : Shared) : Prop :=
  f = .next ∧ ∃ h' tk' m₂ ws' k', s₂ = { s with heap := h', toks := tk' } ∧ Fr h₀ L h' m₂ ∧ News h₀ L h' ((c, listOf ws'.toArray k') :: rest) ∧ AreOf Kb ws' target ∧ Agree2 xi xc m₂ m
theorem are_step {ps : List (List UInt8)} {ws : List Value} {i : Nat} {p q : List UInt8} {v : Value} (hws : AreOf Kb ws ((clean ps).take i)) (hp : ps[i]? = some p) (hq : (if i + 1 < ps.length then trim p else p) = q) (hv : Kb.is q v) : AreOf Kb (ws ++ [v]) ((clean ps).take (i + 1)) := by
  rw [List.take_add_one, clean_get ps i p hp, hq]
  exact AreOf.snoc hv hws
theorem EndClean.intro {h₀ : Heap} {L : Addr} {m m₂ : PySem.Str → Option Value} {xi xc : PySem.Str} {c : Addr} {rest : List (Addr × Obj)} {ps : List (List UInt8)} {s : Shared} {h' : Heap} {tk' k' i : Nat} {ws : List Value} {p q : List UInt8} {v : Value}
    (F : Fr h₀ L h' m₂) (N : News h₀ L h' ((c, listOf (ws.toArray.push v) k') :: rest)) (ha : Agree2 xi xc m₂ m) (hws : AreOf Kb ws ((clean ps).take i)) (hp : ps[i]? = some p) (hq : (if i + 1 < ps.length then trim p else p) = q) (hv : Kb.is q v) :
    EndClean h₀ L m xi xc c rest ((clean ps).take (i + 1)) s .next { s with heap := h', toks := tk' } := by
  rw [List.push_toArray] at N
  exact ⟨rfl, h', tk', m₂, _, k', rfl, F, N, are_step hws hp hq hv, ha⟩
theorem natEq {a b : Addr} (h : a = b) : @Eq Nat a b := h
section
variable {prog : Program} {w : World} {A : Around} {E : Value → Shared → Prop} {s : Shared} {env : Env} {h₀ : Heap} {m : PySem.Str → Option Value} {news : List (Addr × Obj)} {c l : Addr} {vs : List Value} {nn n0 : Nat} {ps : List (List UInt8)} {Q : Flow → Shared → Prop} {body : List Stmt} {xi xc : PySem.Str}

theorem for_clean (hh : A.handled = none) (F : Fr h₀ env.locals s.heap m) (N : News h₀ env.locals s.heap ((c, listOf (([] : List Value).toArray) n0) :: (l, listOf vs.toArray nn) :: news)) (hcl : l ≠ c) (hlt : ∀ p ∈ news, p.1 ≠ c) (hv : AreOf Kb vs ps)
    (turn : ∀ (i : Nat) p tv ti ws k h tk own, ps[i]? = some p → AreOf Kb ws ((clean ps).take i) → (∀ q ∈ (l, listOf vs.toArray nn) :: (news ++ own), q.1 ≠ c) →
      Fr h₀ env.locals h (fun y => if y = xc then some (.bytes p.toArray tv) else if y = xi then some (.int i ti) else m y) → News h₀ env.locals h ((c, listOf ws.toArray k) :: (l, listOf vs.toArray nn) :: (news ++ own)) →
      wpAny (model prog w) A (execs body env) (EndClean h₀ env.locals m xi xc c ((l, listOf vs.toArray nn) :: (news ++ own)) ((clean ps).take (i + 1)) s) E { s with heap := h, toks := tk })
    (done : ∀ h' tk ws k u u', AreOf Kb ws (clean ps) → Fr h₀ env.locals h' (fun y => if y = xc then u else if y = xi then u' else m y) → News h₀ env.locals h' ((c, listOf ws.toArray k) :: (l, listOf vs.toArray nn) :: news) → Q .next { s with heap := h', toks := tk }) :
    wpAny (model prog w) A (call (.type "enumerate") [.ref l]) (fun xv s₁ => wpAny (model prog w) A (pyIter xv) (fun it s₂ => PairAt3 prog w A h₀ env xi xc body Q E it s₂) E s₁) E s := by
  have hll := N (l, listOf vs.toArray nn) (.tail _ (.head _))
  have hls : s.heap.IsList l vs.toArray := ⟨_, hll.1, rfl, nn, rfl⟩
  have hl2 : @LT.lt Nat _ l s.heap.objs.size := Heap.lt_size hll.1
  have hLs : @LT.lt Nat _ env.locals s.heap.objs.size := F.ns.lt
  have hab : @LE.le Nat _ h₀.objs.size env.locals := F.above
  refine call_enumerate_list hls fun h' he hit hsz hk => ?_
  have F' : Fr h₀ env.locals h' m := ⟨F.ns.keeps hk, fun b o e => hk b o (F.keep b o e), F.above⟩
  have N' := (fun p hp => ⟨hk _ _ (N p hp).1, (N p hp).2⟩ : News h₀ env.locals h' ((c, listOf (([] : List Value).toArray) n0) :: (l, listOf vs.toArray nn) :: news))
  have hlt2 : ∀ q ∈ ((c, listOf (([] : List Value).toArray) n0) :: (l, listOf vs.toArray nn) ::  news), @LT.lt Nat _ q.1 s.heap.objs.size := fun q hq => Heap.lt_size (N q hq).1
  refine wpAny_pyIter_enum he ?_
  have D := Draws.list (prog := prog) (w := w) (A := A.in1) hh s.heap.objs.size l (Nat.ne_of_lt hl2) vs.toArray
  have hei : s.heap.objs.size + 1 ≠ s.heap.objs.size := Nat.succ_ne_self _
  have hef : s.heap.objs.size + 1 ∉ [s.heap.objs.size, l] := by
    intro hm
    rcases List.mem_cons.mp hm with e | hm
    · exact Nat.succ_ne_self _ e
    · have := List.mem_singleton.mp hm; omega
  have W := WalksT.enumerateD D (s.heap.objs.size + 1) hei hef (by simp)
  rw [List.size_toArray] at W
  refine ⟨s.heap.objs.size + 1, (s.heap.objs.size + 1) :: [s.heap.objs.size, l], [s.heap.objs.size + 1, s.heap.objs.size], vs.length, _, _, _, (fun i v0 v1 => ∃ t, v0 = .int i t ∧ vs.toArray[i]? = some v1), m, _,
    (fun i m' nx => ∃ ws k, AreOf Kb ws ((clean ps).take i) ∧ Agree2 xi xc m' m ∧ nx = (c, listOf ws.toArray k) :: (l, listOf vs.toArray nn) :: news), rfl, W, ?_, ?_, ?_, ?_, ⟨⟨_, by simpa using he⟩, hit, hls.at fun o e => hk l o e⟩, F', N', ?_, ?_, ?_⟩
  · rintro i vals ⟨t, x, hPx, rfl⟩
    exact ⟨_, _, rfl, t, rfl, hPx⟩
  · intro hm
    rcases List.mem_cons.mp hm with e | hm
    · have e := natEq e; omega
    · rcases List.mem_cons.mp hm with e | hm
      · have e := natEq e; omega
      · have e := List.mem_singleton.mp hm
        exact hll.2.1 e.symm
  · intro b hb
    rcases List.mem_cons.mp hb with rfl | hb
    · exact Heap.get?_none_of_le (by omega)
    · rw [List.mem_singleton.mp hb]; exact Heap.get?_none_of_le (by omega)
  · intro q hq hb
    have := hlt2 q hq
    rcases List.mem_cons.mp hb with e | hb
    · have e := natEq e; omega
    · have e := natEq (List.mem_singleton.mp hb); omega
  · exact ⟨[], n0, by simpa using AreOf.nil, fun _ _ _ => rfl, rfl⟩
  · rintro i v0 v1 m₁ news₁ s₁ own ⟨hh1, tk1, rfl⟩ hin ⟨t, rfl, hPx⟩ ⟨ws, k, hws, hag, rfl⟩ _ hsub F₁ N₁
    have hil : i < ps.length := by rw [← AreOf.len hv]; exact hin
    obtain ⟨v, hvi, tv, hkv⟩ := AreOf.get hv i ps[i] (by simp [hil])
    have e1 : v1 = .bytes ps[i].toArray tv := by
      have : vs[i]? = some v1 := by simpa using hPx
      rw [hvi] at this; cases this; exact hkv
    subst e1
    have hoff : ∀ q ∈ (l, listOf vs.toArray nn) :: (news ++ own), q.1 ≠ c := by
      have hc2 : @LT.lt Nat _ c s.heap.objs.size := hlt2 (c, _) (.head _)
      intro q hq
      rcases List.mem_cons.mp hq with rfl | hq
      · exact hcl
      · rcases List.mem_append.mp hq with hq | hq
        · exact hlt q hq
        · have := hsub q hq
          rcases List.mem_cons.mp this with e | hm
          · have e := natEq e; exact fun z => by have z := natEq z; omega
          · rcases List.mem_cons.mp hm with e | hm
            · have e := natEq e; exact fun z => by have z := natEq z; omega
            · have := List.mem_singleton.mp hm
              rw [this]; exact hcl
    have N₂ : News h₀ env.locals hh1 ((c, listOf ws.toArray k) :: (l, listOf vs.toArray nn) :: (news ++ own)) := fun q hq => N₁ q (by
      rcases List.mem_cons.mp hq with rfl | hq
      · exact List.mem_append_right _ (.head _)
      · rcases List.mem_cons.mp hq with rfl | hq
        · exact List.mem_append_right _ (.tail _ (.head _))
        · rcases List.mem_append.mp hq with hq | hq
          · exact List.mem_append_right _ (.tail _ (.tail _ hq))
          · exact List.mem_append_left _ hq)
    have em : (fun y => if y = xc then some (Value.bytes ps[i].toArray tv) else if y = xi then some (.int i t) else m₁ y) = (fun y => if y = xc then some (Value.bytes ps[i].toArray tv) else if y = xi then some (.int i t) else m y) := by
      funext y
      by_cases h1 : y = xc
      · rw [if_pos h1, if_pos h1]
      · rw [if_neg h1, if_neg h1]
        by_cases h2 : y = xi
        · rw [if_pos h2, if_pos h2]
        · rw [if_neg h2, if_neg h2]; exact hag y h2 h1
    rw [em] at F₁
    refine wpAny_mono (turn i ps[i] tv t ws k hh1 tk1 own (by simp [hil]) hws hoff F₁ N₂) (fun f s₂ h => ?_) fun _ _ e => e
    obtain ⟨rfl, h2, tk2, m₂, ws', k', rfl, F₃, N₃, hws', hag'⟩ := h
    refine ⟨rfl, h2, tk2, m₂, _, rfl, F₃, ?_, ?_, ws', k', hws', hag', rfl⟩
    · intro q hq
      refine N₃ q ?_
      rcases List.mem_append.mp hq with hq | hq
      · exact .tail _ (.tail _ (List.mem_append_right _ hq))
      · rcases List.mem_cons.mp hq with rfl | hq
        · exact .head _
        · rcases List.mem_cons.mp hq with rfl | hq
          · exact .tail _ (.head _)
          · exact .tail _ (.tail _ (List.mem_append_left _ hq))
    · rfl
  · rintro h2 tk2 m2 news2 F2 N2 _ ⟨ws, k, hws, hag, rfl⟩
    have em : m2 = (fun y => if y = xc then m2 xc else if y = xi then m2 xi else m y) := by
      funext y
      by_cases h1 : y = xc
      · rw [if_pos h1, h1]
      · rw [if_neg h1]
        by_cases h2 : y = xi
        · rw [if_pos h2, h2]
        · rw [if_neg h2]; exact hag y h2 h1
    rw [em] at F2
    refine done h2 tk2 ws k _ _ ?_ F2 N2
    rw [List.take_of_length_le] at hws
    · exact hws
    · rw [clean_len, AreOf.len hv]; exact Nat.le_refl _
end
end
section
theorem areCut_len {vs : List Value} {y x : List UInt8} (h : AreOf Kb vs (cutS y 0 x)) : vs.length ≤ x.length + 1 := by
  rw [AreOf.len h]; exact cut_len y x 0
theorem cut_piece {y : List UInt8} : ∀ (x : List UInt8) (k : Nat), ∀ p ∈ cutS y k x, p.length ≤ x.length
  | [], k => by cases k <;> simp [cutS]
  | c :: r, 0 => by
    have h1 := cut_piece (y := y) r (y.length - 1)
    have h2 := cut_piece (y := y) r 0
    unfold cutS
    split
    · intro p hp
      rcases List.mem_cons.mp hp with rfl | hp
      · simp
      · have := h1 p hp; simp; omega
    · split
      · intro p hp; simp at hp; subst hp; simp
      · rename_i p0 ps hc
        rw [hc] at h2
        intro p hp
        rcases List.mem_cons.mp hp with rfl | hp
        · have := h2 p0 (.head _); simp; omega
        · have := h2 p (.tail _ hp); simp; omega
  | c :: r, k + 1 => by
    have h1 := cut_piece (y := y) r k
    unfold cutS
    intro p hp; have := h1 p hp; simp; omega
theorem cut_at {y x p : List UInt8} {i : Nat} (h : (cutS y 0 x)[i]? = some p) : p.length ≤ x.length := cut_piece x 0 p (List.mem_of_getElem? h)
theorem areTake_len {ws : List Value} {y x : List UInt8} {i : Nat} (h : AreOf Kb ws ((clean (cutS y 0 x)).take i)) : ws.length ≤ x.length + 1 := by
  rw [AreOf.len h, List.length_take, clean_len]
  have := cut_len y x 0
  omega
theorem join_long {prog : Program} {w : World} {A : Around} {E : Value → Shared → Prop} {s : Shared} {h₀ : Heap} {L c : Addr} {news : List (Addr × Obj)} {vs : List Value} {nn : Nat} {l : List UInt8} {t : Tok} {Q : Value → Shared → Prop} (N : News h₀ L s.heap ((c, listOf vs.toArray nn) :: news)) (hv : AreOf Kb vs (clean (cutS [10] 0 l))) (hl : l.length ≤ 100000)
    (h : ∀ t' k, Q (.bytes (long l).toArray t') { s with toks := k }) : wpAny (model prog w) A (call (.builtin "bytes.join") [.bytes #[13, 10] t, .ref c]) Q E s := by
  have hz := long_len l
  rw [← long_glue] at h hz
  exact join_bytes (b := [13, 10]) ⟨_, (N _ (.head _)).1, rfl, nn, rfl⟩ hv (by omega) h
theorem len_made {prog : Program} {w : World} {A : Around} {E : Value → Shared → Prop} {s : Shared} {h₀ : Heap} {L l : Addr} {news : List (Addr × Obj)} {vs : List Value} {nn : Nat} {Q : Value → Shared → Prop} (N : News h₀ L s.heap news) (hm : (l, listOf vs.toArray nn) ∈ news) (hfit : vs.length ≤ 1000000)
    (h : Q (.int (vs.length : Int) (s.toks + 1)) { s with toks := s.toks + 1 + 1 }) : wpAny (model prog w) A (call (.builtin "len") [.ref l]) Q E s := by
  have hl : s.heap.IsList l vs.toArray := ⟨_, (N _ hm).1, rfl, nn, rfl⟩
  exact len_list hl (by rw [List.size_toArray]; omega) (by rw [List.size_toArray]; exact h)

theorem q1 {i n : Nat} {vs : List Value} {p : List UInt8} (h1 : (i : Int) < (vs.length : Int) - 1) (h2 : p.toArray.toList.getLast? = some 13) (hn : vs.length = n) : (if i + 1 < n then trim p else p) = p.dropLast := by
  rw [if_pos (by omega), trim, if_pos h2]
theorem q2 {i n : Nat} {vs : List Value} {p : List UInt8} (h1 : (i : Int) < (vs.length : Int) - 1) (h2 : ¬ p.toArray.toList.getLast? = some 13) (hn : vs.length = n) : (if i + 1 < n then trim p else p) = p := by
  rw [if_pos (by omega), trim, if_neg h2]
theorem q3 {i n : Nat} {vs : List Value} {p : List UInt8} (h1 : ¬ (i : Int) < (vs.length : Int) - 1) (hn : vs.length = n) : (if i + 1 < n then trim p else p) = p := by
  rw [if_neg (by omega)]
theorem agree_mk {xi xc : PySem.Str} {m : PySem.Str → Option Value} {u u' : Option Value} : Agree2 xi xc (fun y => if y = xc then u else if y = xi then u' else m y) m := by
  intro z h1 h2
  show (if z = xc then u else if z = xi then u' else m z) = m z
  rw [if_neg h2, if_neg h1]
theorem drop2 {h₀ h : Heap} {L : Addr} {a b : Addr × Obj} {news : List (Addr × Obj)} (N : News h₀ L h (a :: b :: news)) : News h₀ L h news := fun q hq => N q (.tail _ (.tail _ hq))
section
variable {w : World} {p : Program} {loose : List Str} {mean : ExcName → Option Value} {mg mb : Str → Option Value} {dp un : Nat} {gd : Option (List Code)} {cn : Str} {cs : Scope} {a : Addr} {ccd : Value} {cl : List (Str × Addr)} {outer : List Env} {A₀ : Around} {base h₀ : Heap} {L : Addr} {m : Str → Option Value} {s : Shared} {Q E : Value → Shared → Prop} {news : List (Addr × Obj)} {l : List UInt8} {t : Tok}

theorem c_long (B : Below A₀ base outer h₀) (F : Fr h₀ L s.heap m) (X : (Mine.hd.heap_39 w.params).In h₀) (N : News h₀ L s.heap news) (T : Top p loose mean mg mb h₀) (hk : cs.kind = .function)
    (hd : dp + 1 < recursionLimit) (hu : un + 30 < cLine) (hl : l.length ≤ 50000) (hret : ∀ h' tk' t', Fr h₀ L h' m → News h₀ L h' news → Q (.bytes (long l).toArray t') { s with heap := h', toks := tk' }) :
    wpAny (model PySem.Challenge.rw_iy0006_01.row.prog w) (ktrTop dp un gd cn cs L a ccd cl outer) (call (.ref 132) [.bytes l.toArray t]) Q E s := by
  w_top off
  k_with_none
  k_with "getMethod bytes" => (k_here; (first | (with_reducible refine m_find ?_) | (with_reducible refine m_replace ?_) | (with_reducible refine m_split ?_) | (with_reducible refine m_join ?_) | (with_reducible refine m_endswith ?_)))
  k_with "compareOp In bytes bytes" => (k_here; (with_reducible show wpAny _ _ (compareOp CmpOp.In (Value.bytes _ _) (Value.bytes _ _)) _ _ _); k_dflt (refine' in_bytes (by rfl) (by k_asm) (by k_asm) (by first | exact in_cl _ | exact in_one _ _) ?_); intro h' tk' F' N')
  k_with "compareOp NotIn bytes bytes" => (k_here; (with_reducible show wpAny _ _ (compareOp CmpOp.NotIn (Value.bytes _ _) (Value.bytes _ _)) _ _ _); k_dflt (refine' notin_bytes (by rfl) (by k_asm) (by k_asm) (by first | exact in_cl _ | exact in_one _ _) ?_); intro h' tk' F' N')
  k_with "call builtin:bytes.replace" => (k_here; k_dflt (refine replace_crlf (by omega) ?_); intro t' k')
  k_with "subscriptTail" => (k_here; (with_reducible show wpAny _ _ (subscriptTail _ (Expr.Slice _ _ none _) (Value.bytes _ _) (Value.ref _)) _ _ _); (with_reducible rename Fr _ _ _ _ => F'); (with_reducible rename News _ _ _ _ => N'); k_dflt (refine' slice_any (s := ⟨_, _, _, _, _⟩) F' N' (by constructor) (by constructor) (by first | exact picked_up _ 8000 | exact picked_but _ | exact picked_two _ _ (by simp; omega)) (by simp; omega) ?_ ); intro h' t' k' F' N')
  k_with "call builtin:len" => (k_here; (with_reducible show wpAny _ _ (call (Value.builtin "len") [Value.ref _]) _ _ _); k_dflt (refine' len_made (by k_asm) (by first | exact List.Mem.head _ | exact List.Mem.tail _ (List.Mem.head _)) (by omega) ?_))
  k_with "call builtin:bytes.split" => (k_here; k_dflt (refine' split_lf (by k_asm) (by k_asm) (by omega) ?_); intro D' vs' h' k' hvs' F' N' l1')
  k_with "call builtin:bytes.endswith" => (k_here; k_dflt (refine endswith_bytes (suffix_cr _) ?_))
  k_with "call builtin:bytes.join" => (k_here; k_dflt (refine' join_long (by k_asm) (by k_asm) (by omega) ?_); intro t' k')
  k_with "call builtin:list.append" => (k_here; (with_reducible show wpAny _ _ (call (Value.builtin _) [Value.ref _, _]) _ _ _); (rename ∀ q ∈ _, _ ≠ _ => hoff9); k_dflt (refine' append_K (by k_asm) (by k_asm) (Upd.head hoff9) ?_ (by (rw [sizeLine_eq, List.size_toArray]; omega)); k_whole); intro h' F' N')
  k_with "exec For Tuple Call" => (k_here; (rename Fr _ _ _ _ => F'); (with_reducible apply For_pair3F); (case _F => with_unfolding_all exact F'); (case hh => with_unfolding_all rfl); (case hxi => with_unfolding_all rfl); (case hxc => with_unfolding_all rfl); (case hp => with_unfolding_all rfl); (case hs => (intro _; with_unfolding_all rfl)))
  k_with "call type:enumerate" => (k_here; (rename _ ∧ AllLt _ _ => hal); k_dflt (refine' for_clean (by rfl) (by k_asm) (by k_asm) (by exact Nat.ne_of_lt hal.1) (by exact fun q hq => Nat.ne_of_lt (kst_ltOf hal.2 q hq)) (by k_asm) ?_ ?_); ((rename AreOf Kb _ (cutS _ _ _) => hv9); (have hln9 := AreOf.len hv9); (have hcl9 := areCut_len hv9); intro i p tv ti ws k h tk own hp hws hoff F' N'; (have hpl9 := cut_at hp); (have hwl9 := areTake_len hws)); (rotate_left; intro h' tk ws k u u' hws F' N'; rotate_right))
  (revert X; k_fill; intro X)
  refine wpAny_call ?_
  k_dflt cell_enter
  k_steps
  all_goals (first
    | exact hret _ _ _ (by k_asm) (drop2 (by k_asm))
    | ((rename AreOf Kb _ (List.take _ _) => hw8); (rename (cutS _ _ _)[_]? = some _ => hp8); (refine EndClean.intro (by k_asm) (by k_asm) agree_mk hw8 hp8 (by first | exact q1 (by assumption) (by assumption) (by assumption) | exact q2 (by assumption) (by assumption) (by assumption) | exact q3 (by assumption) (by assumption)) ⟨_, rfl⟩)))
end
end
section
def eqB (x : Array UInt8) : Value → Bool
  | .bytes b _ => decide (b.toList = x.toList)
  | _ => false
theorem in_tup2 {prog : Program} {w : World} {A : Around} {E : Value → Shared → Prop} {s : Shared} {h₀ : Heap} {L D : Addr} {news : List (Addr × Obj)} {b1 b2 x : Array UInt8} {t1 t2 t : Tok} {r : Bool} {Q : Value → Shared → Prop}
    (N : News h₀ L s.heap ((D, { cls := .type "tuple", data := .seq #[.bytes b1 t1, .bytes b2 t2] }) :: news)) (e : (decide (b1.toList = x.toList) || decide (b2.toList = x.toList)) = r) (h : Q (.bool r) s) : wpAny (model prog w) A (compareOp .In (.bytes x t) (.ref D)) Q E s := by
  refine PySem.SeqAt.in_tupleAt (eqB x) (items := #[.bytes b1 t1, .bytes b2 t2]) ⟨_, (N _ (.head _)).1, rfl, 0, rfl⟩ (fun y hy => ?_) ?_
  · have : y = .bytes b1 t1 ∨ y = .bytes b2 t2 := by simpa using hy
    rcases this with rfl | rfl <;> exact fun prog w E Q h => eqBool_bytes h
  · have : (#[Value.bytes b1 t1, .bytes b2 t2] : Array Value).any (eqB x) = r := by rw [← e]; simp [eqB]
    rw [this]; exact h

section
variable {w : World} {p : Program} {loose : List Str} {mean : ExcName → Option Value} {mg mb : Str → Option Value} {dp un : Nat} {gd : Option (List Code)} {cn : Str} {cs : Scope} {a : Addr} {ccd : Value} {cl : List (Str × Addr)} {outer : List Env} {A₀ : Around} {base h₀ : Heap} {L : Addr} {m : Str → Option Value} {s : Shared} {Q E : Value → Shared → Prop} {news : List (Addr × Obj)} {o c sf : List UInt8} {t t1 t2 t3 t4 : Tok}

/-- a ValueError that has come out of a called def -/
def Out (base h₀ : Heap) (L : Addr) (m : Str → Option Value) (l : List Env) (news : List (Addr × Obj)) (s : Shared) (E : Value → Shared → Prop) : Prop :=
  ∀ g₂ h' tk' e, Fr h₀ L g₂ m → RaisedN base l e (.type "ValueError") news h' → g₂.UpToSlots h' → E (.ref e) { s with heap := h', toks := tk' }

theorem raised_drop {l : List Env} {h : Heap} {e : Addr} {cls : Value} {x : Addr × Obj} (R : RaisedN base l e cls (x :: news) h) : RaisedN base l e cls news h := by
  obtain ⟨B, a0, h1, h2, h3⟩ := R
  exact ⟨B, a0, h1, fun q hq => h2 q (.tail _ hq), h3⟩
theorem drop1 {h₀ h : Heap} {L : Addr} {a : Addr × Obj} {news : List (Addr × Obj)} (N : News h₀ L h (a :: news)) : News h₀ L h news := fun q hq => N q (.tail _ hq)
theorem b0 (h1 : hasCL o = true) (h2 : hasCL c = true) : bad o c = false := by simp [bad, h1, h2]
theorem b1 {r : Bool} (h1 : hasCL o = true) (h2 : hasCL c = false) (h3 : ((long c).toArray.toList != o.toArray.toList) = r) : bad o c = r := by
  rw [← h3]; simp [bad, h1, h2]
theorem b2 (h1 : hasCL o = false) (h2 : o.contains 10 = false) : bad o c = false := by simp only [bad, h1, h2]; simp
theorem b3 (h1 : hasCL o = false) (h2 : hasCL c = false) : bad o c = false := by simp [bad, h1, h2]
theorem b4 {r : Bool} (h1 : hasCL o = false) (h0 : o.contains 10 = true) (h2 : hasCL c = true) (h3 : ((short c).toArray.toList != o.toArray.toList) = r) : bad o c = r := by
  rw [← h3]; simp only [bad, h0, h1, h2]; simp

theorem ck_no {sf : List UInt8} (h : bad o c = false) : (decide (sf = [116, 114, 117, 101]) && bad o c) = false := by rw [h, Bool.and_false]
theorem ck_sf {sf : List UInt8} {r : Bool} (h : (sf.toArray.toList == ([116, 114, 117, 101] : List UInt8).toArray.toList) = false) : (decide (sf = [116, 114, 117, 101]) && r) = false := by
  have : sf ≠ [116, 114, 117, 101] := by simpa using h
  rw [decide_eq_false this]; rfl
theorem ck_off {sf : List UInt8} {r : Bool} (h : (sf.toArray.toList == ([102, 97, 108, 115, 101] : List UInt8).toArray.toList) = true) : (decide (sf = [116, 114, 117, 101]) && r) = false := by
  have : sf = [102, 97, 108, 115, 101] := by simpa using h
  rw [this]; rfl
theorem ck_in {sf : List UInt8} {r : Bool} (h : (decide (([116, 114, 117, 101] : List UInt8).toArray.toList = sf.toArray.toList) || decide (([119, 97, 114, 110] : List UInt8).toArray.toList = sf.toArray.toList)) = false) : (decide (sf = [116, 114, 117, 101]) && r) = false := by
  have h1 : ¬ sf = [116, 114, 117, 101] := fun e => by rw [e] at h; simp at h
  rw [decide_eq_false h1]; rfl
theorem ck_yes {sf : List UInt8} (h : (sf.toArray.toList == ([116, 114, 117, 101] : List UInt8).toArray.toList) = true) (hb : bad o c = true) : (decide (sf = [116, 114, 117, 101]) && bad o c) = true := by
  have : sf = [116, 114, 117, 101] := by simpa using h
  rw [hb, this]; rfl

theorem c_check (B : Below A₀ base outer h₀) (F : Fr h₀ L s.heap m) (X : (Mine.hd.heap_39 w.params).In h₀) (N : News h₀ L s.heap news) (T : Top p loose mean mg mb h₀) (hk : cs.kind = .function)
    (hd : dp + 2 < recursionLimit) (hu : un + 60 < cLine) (ho : o.length ≤ 20000) (hc : c.length ≤ 20000)
    (hret : (decide (sf = [116, 114, 117, 101]) && bad o c) = false → ∀ h' tk', Fr h₀ L h' m → News h₀ L h' news → Q .none { s with heap := h', toks := tk' })
    (hraise : (decide (sf = [116, 114, 117, 101]) && bad o c) = true → Out base h₀ L m (envX cn cs L a ccd cl :: outer) news s E) :
    wpAny (model PySem.Challenge.rw_iy0006_01.row.prog w) (ktrTop dp un gd cn cs L a ccd cl outer) (call (.ref 140) [.bytes o.toArray t1, .bytes c.toArray t2, .bytes sf.toArray t3, .bytes #[] t4]) Q E s := by
  w_top off
  k_with_none
  k_with "getMethod bytes" => (k_here; (first | (with_reducible refine m_find ?_) | (with_reducible refine m_replace ?_) | (with_reducible refine m_split ?_) | (with_reducible refine m_join ?_) | (with_reducible refine m_endswith ?_)))
  k_with "compareOp In bytes bytes" => (k_here; (with_reducible show wpAny _ _ (compareOp CmpOp.In (Value.bytes _ _) (Value.bytes _ _)) _ _ _); k_dflt (refine' in_bytes (by rfl) (by k_asm) (by k_asm) (by first | exact in_cl _ | exact in_one _ _) ?_); intro h' tk' F' N')
  k_with "compareOp NotIn bytes bytes" => (k_here; (with_reducible show wpAny _ _ (compareOp CmpOp.NotIn (Value.bytes _ _) (Value.bytes _ _)) _ _ _); k_dflt (refine' notin_bytes (by rfl) (by k_asm) (by k_asm) (by first | exact in_cl _ | exact in_one _ _) ?_); intro h' tk' F' N')
  k_with "call builtin:bytes.replace" => (k_here; k_dflt (refine replace_crlf (by omega) ?_); intro t' k')
  k_with "subscriptTail" => (k_here; (with_reducible show wpAny _ _ (subscriptTail _ (Expr.Slice _ _ none _) (Value.bytes _ _) (Value.ref _)) _ _ _); (with_reducible rename Fr _ _ _ _ => F'); (with_reducible rename News _ _ _ _ => N'); k_dflt (refine' slice_any (s := ⟨_, _, _, _, _⟩) F' N' (by constructor) (by constructor) (by first | exact picked_up _ 8000 | exact picked_but _ | exact picked_two _ _ (by simp; omega)) (by simp; omega) ?_ ); intro h' t' k' F' N')
  k_with "m_enter" => (refine' code_def (by k_asm) (by k_asm) (by k_asm) (by k_asm) (by k_asm) (by exact rfl) (by exact rfl) (by assumption) (by k_is) (by k_is) (by ktr_room) (by first | exact BindsTo.of_eq rfl | exact binds_K (by k_in) rfl (by k_is) rfl rfl rfl) (by exact locs rfl) ?_ (by exact rfl) (by exact rfl) (by exact rfl) (by decide); k_whole; intro g' L' h' FG' F' N' B' X' T'; (try dsimp only); (try k_lift B'); (try k_fold))
  k_with "compareOp In bytes ref" => (k_here; k_dflt (refine in_tup2 (by k_asm) (by rfl) ?_))
  k_with "call ref" => (k_here; (with_reducible show wpAny _ _ (call (Value.ref _) [Value.bytes (List.toArray _) _]) _ _ _); k_dflt (refine' c_short (by k_asm) (by k_asm) (by k_asm) (by k_asm) (by k_asm) (by first | exact rfl | assumption) (by ktr_room) (by ktr_units) (by omega) ?_); intro h' tk' t' F' N'; (try dsimp only); (try k_fold))
  k_with "call ref" => (k_here; (with_reducible show wpAny _ _ (call (Value.ref _) [Value.bytes (List.toArray _) _]) _ _ _); k_dflt (refine' c_long (by k_asm) (by k_asm) (by k_asm) (by k_asm) (by k_asm) (by first | exact rfl | assumption) (by ktr_room) (by ktr_units) (by omega) ?_); intro h' tk' t' F' N'; (try dsimp only); (try k_fold))
  k_with "call builtin:bytes.decode" => (k_here; k_dflt (refine decode_nil ?_); intro t' k')
  (revert X; k_fill; intro X)
  have hsl := short_len c
  have hll := long_len c
  refine wpAny_call ?_
  k_dflt walk_at "m_enter"
  k_steps
  all_goals (first
    | exact hret (by first | exact ck_off (by assumption) | exact ck_in (by assumption) | exact ck_sf (by assumption) | exact ck_no (b0 (by assumption) (by assumption)) | exact ck_no (b1 (by assumption) (by assumption) (by assumption)) | exact ck_no (b2 (by assumption) (by assumption)) | exact ck_no (b4 (by assumption) (by assumption) (by assumption) (by assumption)) | exact ck_no (b3 (by assumption) (by assumption))) _ _ (by k_asm) (by first | k_asm | exact drop1 (by k_asm))
    | exact hraise (ck_yes (by assumption) (by first | exact b1 (by assumption) (by assumption) (by assumption) | exact b4 (by assumption) (by assumption) (by assumption) (by assumption))) _ _ _ _ (by assumption) (raised_drop (by assumption)) (by assumption))
end
end
section
local macro_rules | `(tactic| k_room) => `(tactic| ktr_room)
local macro_rules | `(tactic| k_units) => `(tactic| ktr_units)
section
section
variable {prog : Program} {w : World} {A : Around} {E : Value → Shared → Prop} {s : Shared} {K : Frag} {h₀ : Heap} {L D : Addr} {m : Str → Option Value} {news : List (Addr × Obj)} {a b c x y : Str} {ta tb tc t u : Tok} {r : Bool} {Q : Value → Shared → Prop}
def eqS (x : Str) : Value → Bool
  | .str b _ => b == x
  | _ => false
theorem in_top3 {dd : Option Addr} {n : Nat} {sl : Array (Option Value)} (F : Fr h₀ L s.heap m) (X : K.In h₀) (ho : K.lookup D = some ⟨.type "tuple", dd, .seq #[.str a ta, .str b tb, .str c tc] n, sl⟩) (e : (a == x || b == x || c == x) = r) (h : Q (.bool r) s) : wpAny (model prog w) A (compareOp .In (.str x t) (.ref D)) Q E s := by
  refine PySem.SeqAt.in_tupleAt (eqS x) (items := #[.str a ta, .str b tb, .str c tc]) ⟨_, (X.keeps F.keep) _ _ ho, rfl, n, rfl⟩ (fun y hy => ?_) ?_
  · have : y = .str a ta ∨ y = .str b tb ∨ y = .str c tc := by simpa using hy
    rcases this with rfl | rfl | rfl <;> exact PySem.SeqAt.EqAt.str_str _ _ _ _
  · have : (#[Value.str a ta, .str b tb, .str c tc] : Array Value).any (eqS x) = r := by rw [← e]; simp [eqS, Bool.or_assoc]
    rw [this]; exact h
theorem in_new2 (N : News h₀ L s.heap ((D, { cls := .type "tuple", data := .seq #[.str a ta, .str b tb] }) :: news)) (e : (a == x || b == x) = r) (h : Q (.bool r) s) : wpAny (model prog w) A (compareOp .In (.str x t) (.ref D)) Q E s := by
  refine PySem.SeqAt.in_tupleAt (eqS x) (items := #[.str a ta, .str b tb]) ⟨_, (N _ (.head _)).1, rfl, 0, rfl⟩ (fun y hy => ?_) ?_
  · have : y = .str a ta ∨ y = .str b tb := by simpa using hy
    rcases this with rfl | rfl <;> exact PySem.SeqAt.EqAt.str_str _ _ _ _
  · have : (#[Value.str a ta, .str b tb] : Array Value).any (eqS x) = r := by rw [← e]; simp [eqS]
    rw [this]; exact h
theorem str_beq : (x.cps.toList == y.cps.toList) = (x == y) := by
  rw [Bool.eq_iff_iff, beq_iff_eq, beq_iff_eq]
  constructor
  · intro h
    obtain ⟨⟨x⟩⟩ := x
    obtain ⟨⟨y⟩⟩ := y
    simp at h; rw [h]
  · intro h; rw [h]
theorem eq_strB (e : (x == y) = r) (h : Q (.bool r) s) : wpAny (model prog w) A (compareOp .Eq (.str x t) (.str y u)) Q E s := by
  rw [← e, ← str_beq] at h
  exact P.eq_str h
theorem ne_strB (e : (x == y) = r) (h : Q (.bool (!r)) s) : wpAny (model prog w) A (compareOp .NotEq (.str x t) (.str y u)) Q E s := by
  rw [← e, ← str_beq] at h
  exact P.ne_str h
theorem join_ite {M : Model} {e1 e2 : Expr} {env : Env} {va vb : Value} (ha : ∀ Q' : Value → Shared → Prop, Q' va s → wpAny M A (eval e1 env) Q' E s) (hb : ∀ Q' : Value → Shared → Prop, Q' vb s → wpAny M A (eval e2 env) Q' E s) (h : Q (if r = true then va else vb) s) :
    if r = true then wpAny M A (eval e1 env) Q E s else wpAny M A (eval e2 env) Q E s := by
  cases r with
  | true => exact ha Q h
  | false => exact hb Q h
end

theorem drop3 {h₀ h : Heap} {L : Addr} {a b c : Addr × Obj} {news : List (Addr × Obj)} (N : News h₀ L h (a :: b :: c :: news)) : News h₀ L h (a :: b :: news) := fun q hq => N q (by
  rcases List.mem_cons.mp hq with rfl | hq
  · exact .head _
  · rcases List.mem_cons.mp hq with rfl | hq
    · exact .tail _ (.head _)
    · exact .tail _ (.tail _ (.tail _ hq)))
/-- the action is one of the two that lay CRLF on the way out -/
def isOut (x : Str) : Bool := Str.ofString "text-crlf" == x || Str.ofString "auto-crlf" == x
/-- the action is one by heuristic -/
def isAuto (x : Str) : Bool := Str.ofString "auto" == x || Str.ofString "auto-input" == x || Str.ofString "auto-crlf" == x
/-- the filter's fields -/
abbrev fields (w : World) (k1 k2 k3 k4 k5 k6 : Tok) (sm : Value) (sf : Value) (rq : Bool) (ix : Value) : Obj :=
  dictOf [⟨PyData.keyHash w.params (Str.ofString "clean_conversion"), .str (Str.ofString "clean_conversion") k1, .bool true⟩,
    ⟨PyData.keyHash w.params (Str.ofString "smudge_conversion"), .str (Str.ofString "smudge_conversion") k2, sm⟩,
    ⟨PyData.keyHash w.params (Str.ofString "binary_detection"), .str (Str.ofString "binary_detection") k3, .bool true⟩,
    ⟨PyData.keyHash w.params (Str.ofString "safecrlf"), .str (Str.ofString "safecrlf") k4, sf⟩,
    ⟨PyData.keyHash w.params (Str.ofString "require_lf_only"), .str (Str.ofString "require_lf_only") k5, .bool rq⟩,
    ⟨PyData.keyHash w.params (Str.ofString "index_has_crlf"), .str (Str.ofString "index_has_crlf") k6, ix⟩] 6

section
variable {w : World} {p : Program} {loose : List Str} {mean : ExcName → Option Value} {mg mb : Str → Option Value} {dp un : Nat} {gd : Option (List Code)} {cn : Str} {cs : Scope} {a : Addr} {ccd : Value} {cl : List (Str × Addr)} {outer : List Env} {A₀ : Around} {base h₀ : Heap} {L : Addr} {m : Str → Option Value} {s : Shared} {Q E : Value → Shared → Prop} {news : List (Addr × Obj)} {sf : Array UInt8} {t t1 t2 t3 t4 : Tok} {ix : Value} {act : Str}

theorem c_filter (B : Below A₀ base outer h₀) (F : Fr h₀ L s.heap m) (X : (Mine.hd.heap_39 w.params).In h₀) (N : News h₀ L s.heap news) (T : Top p loose mean mg mb h₀) (hk : cs.kind = .function)
    (hd : dp + 5 < recursionLimit) (hu : un + 60 < cLine) (hb : (act == Str.ofString "binary") = false)
    (hret : ∀ x dx k1 k2 k3 k4 k5 k6 h' tk', Fr h₀ L h' m → News h₀ L h' ((x, instObj 114 dx) :: (dx, fields w k1 k2 k3 k4 k5 k6 (if isOut act = true then .bool true else .none) (.bytes sf t3) (isAuto act) (if isAuto act = true then ix else .none)) :: news) → Q (.ref x) { s with heap := h', toks := tk' }) :
    wpAny (model PySem.Challenge.rw_iy0006_01.row.prog w) (ktrTop dp un gd cn cs L a ccd cl outer) (call (.ref 73) [.str act t1, .bytes sf t3, ix]) Q E s := by
  w_top off
  k_with_none
  k_with "getMethod bytes" => (k_here; (first | (with_reducible refine m_find ?_) | (with_reducible refine m_replace ?_) | (with_reducible refine m_split ?_) | (with_reducible refine m_join ?_) | (with_reducible refine m_endswith ?_)))
  k_with "compareOp In bytes bytes" => (k_here; (with_reducible show wpAny _ _ (compareOp CmpOp.In (Value.bytes _ _) (Value.bytes _ _)) _ _ _); k_dflt (refine' in_bytes (by rfl) (by k_asm) (by k_asm) (by first | exact in_cl _ | exact in_one _ _) ?_); intro h' tk' F' N')
  k_with "compareOp NotIn bytes bytes" => (k_here; (with_reducible show wpAny _ _ (compareOp CmpOp.NotIn (Value.bytes _ _) (Value.bytes _ _)) _ _ _); k_dflt (refine' notin_bytes (by rfl) (by k_asm) (by k_asm) (by first | exact in_cl _ | exact in_one _ _) ?_); intro h' tk' F' N')
  k_with "call builtin:bytes.replace" => (k_here; k_dflt (refine replace_crlf (by omega) ?_); intro t' k')
  k_with "subscriptTail" => (k_here; (with_reducible show wpAny _ _ (subscriptTail _ (Expr.Slice _ _ none _) (Value.bytes _ _) (Value.ref _)) _ _ _); (with_reducible rename Fr _ _ _ _ => F'); (with_reducible rename News _ _ _ _ => N'); k_dflt (refine' slice_any (s := ⟨_, _, _, _, _⟩) F' N' (by constructor) (by constructor) (by first | exact picked_up _ 8000 | exact picked_but _ | exact picked_two _ _ (by simp; omega)) (by simp; omega) ?_ ); intro h' t' k' F' N')
  k_with "m_enter" => (refine' code_def (by k_asm) (by k_asm) (by k_asm) (by k_asm) (by k_asm) (by exact rfl) (by exact rfl) (by assumption) (by k_is) (by k_is) (by ktr_room) (by first | exact BindsTo.of_eq rfl | exact binds_K (by k_in) rfl (by k_is) rfl rfl rfl) (by exact locs rfl) ?_ (by exact rfl) (by exact rfl) (by exact rfl) (by decide); k_whole; intro g' L' h' FG' F' N' B' X' T'; (try dsimp only); (try k_lift B'); (try k_fold))
  k_with "m_leaf" => first | exact fun Q h => Constant_bool h | exact fun Q h => Constant_none h | exact fun Q h => nameX_L (by assumption) (by rfl) h (by rfl) (by rfl)
  k_with "ite" => (k_here; (fail_if_success k_closed); (with_reducible show (if _ = true then wpAny _ _ (eval _ _) _ _ _ else wpAny _ _ (eval _ _) _ _ _)); k_dflt (refine' join_ite (by walk_at "m_leaf") (by walk_at "m_leaf") ?_))
  k_with "compareOp In str ref" => (k_here; k_dflt (first | (refine' in_top3 (by k_asm) (by k_asm) (by k_is) (by exact rfl) ?_) | (refine' in_new2 (by k_asm) (by exact rfl) ?_)))
  k_with "compareOp Eq str str" => (k_here; (refine eq_strB (by first | assumption | exact rfl) ?_))
  k_with "compareOp NotEq str str" => (k_here; (refine ne_strB (by first | assumption | exact rfl) ?_))
  (revert X; k_fill; intro X)
  refine wpAny_call ?_
  k_dflt walk_at "m_enter"
  k_steps
  all_goals exact hret _ _ _ _ _ _ _ _ _ _ (by k_asm) (drop3 (by k_asm))
end
end
section
/-- the filter leaves the octets alone on the way in -/
def stillC (l : List UInt8) (ix : Value) : Bool := isBin l || (hasCL l && decide (ix = .bool true))
/-- and on the way out -/
def stillS (l : List UInt8) (sm : Value) (rq : Bool) : Bool := decide (sm = .none) || isBin l || (rq && l.contains 13)
theorem st0 {l : List UInt8} {ix : Value} (h : isBin l = true) : stillC l ix = true := by simp [stillC, h]
theorem st1 {l : List UInt8} (h : isBin l = false) : stillC l .none = false := by simp [stillC, h]
theorem st2 {l : List UInt8} {ix : Value} (h : isBin l = false) (h2 : hasCL l = false) : stillC l ix = false := by simp [stillC, h, h2]
theorem st3 {l : List UInt8} {b : Bool} (h : hasCL l = true) (h2 : b = true) : stillC l (.bool b) = true := by simp [stillC, h, h2]
theorem st4 {l : List UInt8} {b : Bool} (h : isBin l = false) (h2 : b = false) : stillC l (.bool b) = false := by simp [stillC, h, h2]
theorem sf_no {sf : List UInt8} (r : Bool) (h : (sf.toArray.toList != [102, 97, 108, 115, 101].toArray.toList) = false) : (decide (sf = [116, 114, 117, 101]) && r) = false := by
  have : sf = [102, 97, 108, 115, 101] := by simpa using h
  subst this; simp
section
variable {w : World} {p : Program} {loose : List Str} {mean : ExcName → Option Value} {mg mb : Str → Option Value} {dp un : Nat} {gd : Option (List Code)} {cn : Str} {cs : Scope} {a : Addr} {ccd : Value} {cl : List (Str × Addr)} {outer : List Env} {A₀ : Around} {base h₀ : Heap} {L : Addr} {m : Str → Option Value} {s : Shared} {Q E : Value → Shared → Prop} {news : List (Addr × Obj)} {o c sf l : List UInt8} {t t1 t2 t3 t4 : Tok} {ix sm : Value} {rq : Bool} {k1 k2 k3 k4 k5 k6 : Tok} {x dx : Addr}

theorem c_clean (B : Below A₀ base outer h₀) (F : Fr h₀ L s.heap m) (X : (Mine.hd.heap_39 w.params).In h₀) (N : News h₀ L s.heap news) (T : Top p loose mean mg mb h₀) (hk : cs.kind = .function)
    (hd : dp + 5 < recursionLimit) (hu : un + 100 < cLine) (hl : l.length ≤ 10000) (hx : (x, instObj 114 dx) ∈ news) (hdx : (dx, fields w k1 k2 k3 k4 k5 k6 sm (.bytes sf.toArray t3) rq ix) ∈ news) (hix : ix = .none ∨ ∃ b, ix = .bool b)
    (hsf : sf = [116, 114, 117, 101] ∨ sf = [102, 97, 108, 115, 101] ∨ sf = [119, 97, 114, 110])
    (hstill : stillC l ix = true → ∀ h' tk' t', Fr h₀ L h' m → News h₀ L h' news → Q (.bytes l.toArray t') { s with heap := h', toks := tk' })
    (hshort : stillC l ix = false → (decide (sf = [116, 114, 117, 101]) && bad l (short l)) = false → ∀ h' tk' t', Fr h₀ L h' m → News h₀ L h' news → Q (.bytes (short l).toArray t') { s with heap := h', toks := tk' })
    (hraise : stillC l ix = false → (decide (sf = [116, 114, 117, 101]) && bad l (short l)) = true → Out base h₀ L m (envX cn cs L a ccd cl :: outer) news s E) :
    wpAny (model PySem.Challenge.rw_iy0006_01.row.prog w) (ktrTop dp un gd cn cs L a ccd cl outer) (call (.ref 96) [.ref x, .bytes l.toArray t]) Q E s := by
  w_top off
  k_with_none
  k_with "getMethod bytes" => (k_here; (first | (with_reducible refine m_find ?_) | (with_reducible refine m_replace ?_) | (with_reducible refine m_split ?_) | (with_reducible refine m_join ?_) | (with_reducible refine m_endswith ?_)))
  k_with "compareOp In bytes bytes" => (k_here; (with_reducible show wpAny _ _ (compareOp CmpOp.In (Value.bytes _ _) (Value.bytes _ _)) _ _ _); k_dflt (refine' in_bytes (by rfl) (by k_asm) (by k_asm) (by first | exact in_cl _ | exact in_one _ _) ?_); intro h' tk' F' N')
  k_with "compareOp NotIn bytes bytes" => (k_here; (with_reducible show wpAny _ _ (compareOp CmpOp.NotIn (Value.bytes _ _) (Value.bytes _ _)) _ _ _); k_dflt (refine' notin_bytes (by rfl) (by k_asm) (by k_asm) (by first | exact in_cl _ | exact in_one _ _) ?_); intro h' tk' F' N')
  k_with "call builtin:bytes.replace" => (k_here; k_dflt (refine replace_crlf (by omega) ?_); intro t' k')
  k_with "subscriptTail" => (k_here; (with_reducible show wpAny _ _ (subscriptTail _ (Expr.Slice _ _ none _) (Value.bytes _ _) (Value.ref _)) _ _ _); (with_reducible rename Fr _ _ _ _ => F'); (with_reducible rename News _ _ _ _ => N'); k_dflt (refine' slice_any (s := ⟨_, _, _, _, _⟩) F' N' (by constructor) (by constructor) (by first | exact picked_up _ 8000 | exact picked_but _ | exact picked_two _ _ (by simp; omega)) (by simp; omega) ?_ ); intro h' t' k' F' N')
  k_with "m_enter" => (refine' code_def (by k_asm) (by k_asm) (by k_asm) (by k_asm) (by k_asm) (by exact rfl) (by exact rfl) (by assumption) (by k_is) (by k_is) (by ktr_room) (by first | exact BindsTo.of_eq rfl | exact binds_K (by k_in) rfl (by k_is) rfl rfl rfl) (by exact locs rfl) ?_ (by exact rfl) (by exact rfl) (by exact rfl) (by decide); k_whole; intro g' L' h' FG' F' N' B' X' T'; (try dsimp only); (try k_lift B'); (try k_fold))
  k_with "call ref" => (k_here; (with_reducible show wpAny _ _ (call (Value.ref _) [Value.bytes (List.toArray _) _]) _ _ _); k_dflt (refine' c_short (by k_asm) (by k_asm) (by k_asm) (by k_asm) (by k_asm) (by first | exact rfl | assumption) (by ktr_room) (by ktr_units) (by omega) ?_); intro h' tk' t' F' N'; (try dsimp only); (try k_fold))
  k_with "call ref" => (k_here; (with_reducible show wpAny _ _ (call (Value.ref _) [Value.bytes (List.toArray _) _]) _ _ _); k_dflt (refine' c_long (by k_asm) (by k_asm) (by k_asm) (by k_asm) (by k_asm) (by first | exact rfl | assumption) (by ktr_room) (by ktr_units) (by omega) ?_); intro h' tk' t' F' N'; (try dsimp only); (try k_fold))
  k_with "call ref" => (k_here; (with_reducible show wpAny _ _ (call (Value.ref _) [Value.bytes (List.toArray _) _]) _ _ _); k_dflt (refine' c_isbin (by k_asm) (by k_asm) (by k_asm) (by k_asm) (by k_asm) (by first | exact rfl | assumption) (by ktr_room) (by ktr_units) (by omega) ?_); intro h' tk' F' N'; (try dsimp only); (try k_fold))
  k_with "call ref" => (k_here; (with_reducible show wpAny _ _ (call (Value.ref _) [Value.bytes (List.toArray _) _, Value.bytes (List.toArray _) _, Value.bytes (List.toArray _) _, Value.bytes _ _]) _ _ _); k_dflt (refine' c_check (by k_asm) (by k_asm) (by k_asm) (by k_asm) (by k_asm) (by first | exact rfl | assumption) (by ktr_room) (by ktr_units) (by omega) (by omega) (fun hcond h' tk' F' N' => ?_) (fun hcond g₂ h' tk' e' F₂ R' U' => ?_); (all_goals (try dsimp only)); (all_goals (try k_fold))))
  (revert X; k_fill; intro X)
  have hsl := short_len l
  rcases hix with rfl | ⟨b, rfl⟩
  all_goals
    refine wpAny_call ?_
    k_dflt walk_at "m_enter"
    k_steps
    all_goals (first
      | exact hstill (by first | exact st0 (by assumption) | exact st3 (by assumption) (by assumption)) _ _ _ (by k_asm) (by k_asm)
      | exact hshort (by first | exact st1 (by assumption) | exact st2 (by assumption) (by assumption) | exact st4 (by assumption) (by assumption)) (by first | assumption | exact sf_no _ (by assumption)) _ _ _ (by k_asm) (by k_asm)
      | exact hraise (by first | exact st1 (by assumption) | exact st2 (by assumption) (by assumption) | exact st4 (by assumption) (by assumption)) (by assumption) _ _ _ _ (by assumption) (by assumption) (by assumption))
end
end
section
theorem ss0 {l : List UInt8} {rq : Bool} : stillS l .none rq = true := by simp [stillS]
theorem ss1 {l : List UInt8} {sm : Value} {rq : Bool} (h : isBin l = true) : stillS l sm rq = true := by simp [stillS, h]
theorem ss2 {l : List UInt8} {sm : Value} {rq : Bool} (h : rq = true) (h2 : l.contains 13 = true) : stillS l sm rq = true := by
  subst h; simp only [stillS, h2]; simp
theorem sn1 {l : List UInt8} {rq : Bool} (h : isBin l = false) (h2 : rq = false) : stillS l (.bool true) rq = false := by simp [stillS, h, h2]
theorem sn2 {l : List UInt8} {rq : Bool} (h : isBin l = false) (h2 : l.contains 13 = false) : stillS l (.bool true) rq = false := by
  simp only [stillS, h, h2]; simp
theorem no_raise {l : List UInt8} {d : Bool} (h : (d && bad l (long l)) = true) : False := by rw [bad_long] at h; simp at h
section
variable {w : World} {p : Program} {loose : List Str} {mean : ExcName → Option Value} {mg mb : Str → Option Value} {dp un : Nat} {gd : Option (List Code)} {cn : Str} {cs : Scope} {a : Addr} {ccd : Value} {cl : List (Str × Addr)} {outer : List Env} {A₀ : Around} {base h₀ : Heap} {L : Addr} {m : Str → Option Value} {s : Shared} {Q E : Value → Shared → Prop} {news : List (Addr × Obj)} {o c sf l : List UInt8} {t t1 t2 t3 t4 : Tok} {ix sm : Value} {rq : Bool} {k1 k2 k3 k4 k5 k6 : Tok} {x dx : Addr}

theorem c_smudge (B : Below A₀ base outer h₀) (F : Fr h₀ L s.heap m) (X : (Mine.hd.heap_39 w.params).In h₀) (N : News h₀ L s.heap news) (T : Top p loose mean mg mb h₀) (hk : cs.kind = .function)
    (hd : dp + 5 < recursionLimit) (hu : un + 100 < cLine) (hl : l.length ≤ 10000) (hx : (x, instObj 114 dx) ∈ news) (hdx : (dx, fields w k1 k2 k3 k4 k5 k6 sm (.bytes sf.toArray t3) rq ix) ∈ news) (hsm : sm = .none ∨ sm = .bool true)
    (hsf : sf = [116, 114, 117, 101] ∨ sf = [102, 97, 108, 115, 101] ∨ sf = [119, 97, 114, 110])
    (hstill : stillS l sm rq = true → ∀ h' tk' t', Fr h₀ L h' m → News h₀ L h' news → Q (.bytes l.toArray t') { s with heap := h', toks := tk' })
    (hlong : stillS l sm rq = false → ∀ h' tk' t', Fr h₀ L h' m → News h₀ L h' news → Q (.bytes (long l).toArray t') { s with heap := h', toks := tk' }) :
    wpAny (model PySem.Challenge.rw_iy0006_01.row.prog w) (ktrTop dp un gd cn cs L a ccd cl outer) (call (.ref 104) [.ref x, .bytes l.toArray t]) Q E s := by
  w_top off
  k_with_none
  k_with "getMethod bytes" => (k_here; (first | (with_reducible refine m_find ?_) | (with_reducible refine m_replace ?_) | (with_reducible refine m_split ?_) | (with_reducible refine m_join ?_) | (with_reducible refine m_endswith ?_)))
  k_with "compareOp In bytes bytes" => (k_here; (with_reducible show wpAny _ _ (compareOp CmpOp.In (Value.bytes _ _) (Value.bytes _ _)) _ _ _); k_dflt (refine' in_bytes (by rfl) (by k_asm) (by k_asm) (by first | exact in_cl _ | exact in_one _ _) ?_); intro h' tk' F' N')
  k_with "compareOp NotIn bytes bytes" => (k_here; (with_reducible show wpAny _ _ (compareOp CmpOp.NotIn (Value.bytes _ _) (Value.bytes _ _)) _ _ _); k_dflt (refine' notin_bytes (by rfl) (by k_asm) (by k_asm) (by first | exact in_cl _ | exact in_one _ _) ?_); intro h' tk' F' N')
  k_with "call builtin:bytes.replace" => (k_here; k_dflt (refine replace_crlf (by omega) ?_); intro t' k')
  k_with "subscriptTail" => (k_here; (with_reducible show wpAny _ _ (subscriptTail _ (Expr.Slice _ _ none _) (Value.bytes _ _) (Value.ref _)) _ _ _); (with_reducible rename Fr _ _ _ _ => F'); (with_reducible rename News _ _ _ _ => N'); k_dflt (refine' slice_any (s := ⟨_, _, _, _, _⟩) F' N' (by constructor) (by constructor) (by first | exact picked_up _ 8000 | exact picked_but _ | exact picked_two _ _ (by simp; omega)) (by simp; omega) ?_ ); intro h' t' k' F' N')
  k_with "m_enter" => (refine' code_def (by k_asm) (by k_asm) (by k_asm) (by k_asm) (by k_asm) (by exact rfl) (by exact rfl) (by assumption) (by k_is) (by k_is) (by ktr_room) (by first | exact BindsTo.of_eq rfl | exact binds_K (by k_in) rfl (by k_is) rfl rfl rfl) (by exact locs rfl) ?_ (by exact rfl) (by exact rfl) (by exact rfl) (by decide); k_whole; intro g' L' h' FG' F' N' B' X' T'; (try dsimp only); (try k_lift B'); (try k_fold))
  k_with "call ref" => (k_here; (with_reducible show wpAny _ _ (call (Value.ref _) [Value.bytes (List.toArray _) _]) _ _ _); k_dflt (refine' c_short (by k_asm) (by k_asm) (by k_asm) (by k_asm) (by k_asm) (by first | exact rfl | assumption) (by ktr_room) (by ktr_units) (by omega) ?_); intro h' tk' t' F' N'; (try dsimp only); (try k_fold))
  k_with "call ref" => (k_here; (with_reducible show wpAny _ _ (call (Value.ref _) [Value.bytes (List.toArray _) _]) _ _ _); k_dflt (refine' c_long (by k_asm) (by k_asm) (by k_asm) (by k_asm) (by k_asm) (by first | exact rfl | assumption) (by ktr_room) (by ktr_units) (by omega) ?_); intro h' tk' t' F' N'; (try dsimp only); (try k_fold))
  k_with "call ref" => (k_here; (with_reducible show wpAny _ _ (call (Value.ref _) [Value.bytes (List.toArray _) _]) _ _ _); k_dflt (refine' c_isbin (by k_asm) (by k_asm) (by k_asm) (by k_asm) (by k_asm) (by first | exact rfl | assumption) (by ktr_room) (by ktr_units) (by omega) ?_); intro h' tk' F' N'; (try dsimp only); (try k_fold))
  k_with "call ref" => (k_here; (with_reducible show wpAny _ _ (call (Value.ref _) [Value.bytes (List.toArray _) _, Value.bytes (List.toArray _) _, Value.bytes (List.toArray _) _, Value.bytes _ _]) _ _ _); k_dflt (refine' c_check (by k_asm) (by k_asm) (by k_asm) (by k_asm) (by k_asm) (by first | exact rfl | assumption) (by ktr_room) (by ktr_units) (by omega) (by omega) (fun hcond h' tk' F' N' => ?_) (fun hcond g₂ h' tk' e' F₂ R' U' => ?_); (all_goals (try dsimp only)); (all_goals (try k_fold))))
  (revert X; k_fill; intro X)
  have hll := long_len l
  rcases hsm with rfl | rfl
  all_goals
    refine wpAny_call ?_
    k_dflt walk_at "m_enter"
    k_steps
    all_goals (first
      | exact hstill (by first | exact ss0 | exact ss1 (by assumption) | exact ss2 (by assumption) (by assumption)) _ _ _ (by k_asm) (by k_asm)
      | exact hlong (by first | exact sn1 (by assumption) (by assumption) | exact sn2 (by assumption) (by assumption)) _ _ _ (by k_asm) (by k_asm)
      | exact (no_raise (by assumption)).elim)
end
end
section
theorem slot_bytes_eq_refl : Slot "bytes" (cmpInfo .Eq).2.2 "bytes.__eq__" :=
  .of (owner := "bytes") (n := "__eq__") (by rw [typeLookup_type, builtinLookup_eq_fast]; kernel_rfl) (by decide +kernel) (by decide +kernel) (by decide +kernel)
    (by first | exact .inl (by decide +kernel) | exact .inr (by decide +kernel)) (by rw [isSubtype_type]; kernel_rfl)
theorem sub_bytes_none : isSubtype (.type "bytes") (.type "NoneType") = pure false := by rw [isSubtype_type]; kernel_rfl
theorem sub_bytes_bool : isSubtype (.type "bytes") (.type "bool") = pure false := by rw [isSubtype_type]; kernel_rfl
theorem none_bytes (a : Array UInt8) (t : Tok) : Gives (Builtin.«NoneType.__eq__» ⟨[.none, .bytes a t], []⟩) (.val (Value.notImplemented)) :=
  .of_wp fun M A E s Q h => by obtain ⟨hp, g, d, tk, os⟩ := s; wp_walk; exact ⟨_, rfl, h⟩
theorem bool_bytes (b : Bool) (a : Array UInt8) (t : Tok) : Gives (Builtin.«int.__eq__» ⟨[.bool b, .bytes a t], []⟩) (.val (Value.notImplemented)) :=
  .of_wp fun M A E s Q h => by obtain ⟨hp, g, d, tk, os⟩ := s; wp_walk; exact ⟨_, rfl, h⟩
theorem bytes_none (a : Array UInt8) (t : Tok) : Gives (Builtin.«bytes.__eq__» ⟨[.bytes a t, .none], []⟩) (.val (Value.notImplemented)) := by
  refine .of_wp fun M A E s Q hq => ?_
  show wpAny M A (isInstance (.none) (.type "bytes") >>= fun r => _) _ E s
  refine wpAny_bind (wpAny_isInstance (T := "NoneType") (b := false) rfl (by rw [isSubtype_type]; kernel_rfl) ?_)
  show wpAny M A (rule _ >>= fun _ => ret .notImplemented) _ E s
  exact wpAny_bind (wpAny_rule (wpAny_pure ⟨_, rfl, hq⟩))
theorem bytes_bool (b : Bool) (a : Array UInt8) (t : Tok) : Gives (Builtin.«bytes.__eq__» ⟨[.bytes a t, .bool b], []⟩) (.val (Value.notImplemented)) := by
  refine .of_wp fun M A E s Q hq => ?_
  show wpAny M A (isInstance (.bool b) (.type "bytes") >>= fun r => _) _ E s
  refine wpAny_bind (wpAny_isInstance (T := "bool") (b := false) rfl (by rw [isSubtype_type]; kernel_rfl) ?_)
  show wpAny M A (rule _ >>= fun _ => ret .notImplemented) _ E s
  exact wpAny_bind (wpAny_rule (wpAny_pure ⟨_, rfl, hq⟩))
section
variable {prog : Program} {w : World} {A : Around} {E : Value → Shared → Prop} {s : Shared} {a : Array UInt8} {t : Tok} {Q : Value → Shared → Prop} {b : Bool}
theorem eq_none_bytes (h : Q (.bool false) s) : wpAny (model prog w) A (compareOp .Eq .none (.bytes a t)) Q E s := by
  show wpAny _ A (richCompare .Eq _ _) Q E s
  exact EqNone.wpAny_richCompare_eq_decline (k := false) (fun _ => rfl) (fun s' => typeIs_bytes s' a t) (by decide) sub_bytes_none F.slot_NoneType_eq slot_bytes_eq_refl rfl
    (call_gives F.slot_NoneType_eq rfl F.entry_NoneType_eq (F.args_NoneType_eq_2 _ _) (none_bytes a t)
      ⟨rfl, call_gives slot_bytes_eq_refl (typeIs_bytes s a t) FB.entry_bytes_eq (FB.args_bytes_eq_2 _ _) (bytes_none a t) ⟨rfl, h⟩⟩)
theorem eq_bool_bytes (h : Q (.bool false) s) : wpAny (model prog w) A (compareOp .Eq (.bool b) (.bytes a t)) Q E s := by
  show wpAny _ A (richCompare .Eq _ _) Q E s
  exact EqNone.wpAny_richCompare_eq_decline (k := false) (fun _ => rfl) (fun s' => typeIs_bytes s' a t) (by decide) sub_bytes_bool F.slot_bool_eq slot_bytes_eq_refl rfl
    (call_gives F.slot_bool_eq rfl F.entry_int_eq (F.args_int_eq_2 _ _) (bool_bytes b a t)
      ⟨rfl, call_gives slot_bytes_eq_refl (typeIs_bytes s a t) FB.entry_bytes_eq (FB.args_bytes_eq_2 _ _) (bytes_bool b a t) ⟨rfl, h⟩⟩)
/-- a value that an attribute may hold: nothing, a truth value, octets -/
def Att (v : Value) : Prop := v = .none ∨ (∃ b, v = .bool b) ∨ ∃ l t, v = .bytes l t
def isB (v : Value) (l : List UInt8) : Bool := match v with
  | .bytes c _ => c.toList == l
  | _ => false
theorem eq_att {v : Value} {l : List UInt8} (hv : Att v) (h : Q (.bool (isB v l)) s) : wpAny (model prog w) A (compareOp .Eq v (.bytes l.toArray t)) Q E s := by
  rcases hv with rfl | ⟨b, rfl⟩ | ⟨c, u, rfl⟩
  · exact eq_none_bytes h
  · exact eq_bool_bytes h
  · exact eq_bytes h
theorem plain_att {v x : Value} (hv : Att v) (hx : x = .none ∨ ∃ b, x = .bool b) : plainIs v x = true := by
  rcases hv with rfl | ⟨c, rfl⟩ | ⟨c, u, rfl⟩ <;> rcases hx with rfl | ⟨d, rfl⟩ <;> rfl
theorem is_att {v x : Value} (hv : Att v) (hx : x = .none ∨ ∃ b, x = .bool b) (h : Q (.bool (v == x)) s) : wpAny (model prog w) A (compareOp .Is v x) Q E s := wpAny_is_plain (plain_att hv hx) h
theorem isnot_att {v x : Value} (hv : Att v) (hx : x = .none ∨ ∃ b, x = .bool b) (h : Q (.bool (!(v == x))) s) : wpAny (model prog w) A (compareOp .IsNot v x) Q E s := wpAny_isNot_plain (plain_att hv hx) h
end
end
section
/-- what an attribute tells -/
def attrAct (v : Value) : Str := if (v == .bool true) = true then Str.ofString "text" else if (v == .bool false) = true then Str.ofString "binary" else if isB v [105, 110, 112, 117, 116] = true then Str.ofString "text-input" else if isB v [97, 117, 116, 111] = true then Str.ofString "auto" else Str.ofString "undefined"
theorem aa1 {v : Value} (h : (v == .bool true) = true) : attrAct v = Str.ofString "text" := by rw [attrAct, if_pos h]
theorem aa2 {v : Value} (h0 : (v == .bool true) = false) (h : (v == .bool false) = true) : attrAct v = Str.ofString "binary" := by rw [attrAct, if_neg (by rw [h0]; exact Bool.false_ne_true), if_pos h]
theorem aa3 {v : Value} (h0 : (v == .bool true) = false) (h1 : (v == .bool false) = false) (h : isB v [105, 110, 112, 117, 116] = true) : attrAct v = Str.ofString "text-input" := by
  rw [attrAct, if_neg (by rw [h0]; exact Bool.false_ne_true), if_neg (by rw [h1]; exact Bool.false_ne_true), if_pos h]
theorem aa4 {v : Value} (h0 : (v == .bool true) = false) (h1 : (v == .bool false) = false) (h2 : isB v [105, 110, 112, 117, 116] = false) (h : isB v [97, 117, 116, 111] = true) : attrAct v = Str.ofString "auto" := by
  rw [attrAct, if_neg (by rw [h0]; exact Bool.false_ne_true), if_neg (by rw [h1]; exact Bool.false_ne_true), if_neg (by rw [h2]; exact Bool.false_ne_true), if_pos h]
theorem aa5 {v : Value} (h0 : (v == .bool true) = false) (h1 : (v == .bool false) = false) (h2 : isB v [105, 110, 112, 117, 116] = false) (h : isB v [97, 117, 116, 111] = false) : attrAct v = Str.ofString "undefined" := by
  rw [attrAct, if_neg (by rw [h0]; exact Bool.false_ne_true), if_neg (by rw [h1]; exact Bool.false_ne_true), if_neg (by rw [h2]; exact Bool.false_ne_true), if_neg (by rw [h]; exact Bool.false_ne_true)]
/-- the configuration's line end -/
def eolS (core : Str) (auto : List UInt8) : Bool := if (auto == [116, 114, 117, 101]) = true then true else if (auto == [105, 110, 112, 117, 116]) = true then false else core == Str.ofString "crlf"

section
variable {w : World} {p : Program} {loose : List Str} {mean : ExcName → Option Value} {mg mb : Str → Option Value} {dp un : Nat} {gd : Option (List Code)} {cn : Str} {cs : Scope} {a : Addr} {ccd : Value} {cl : List (Str × Addr)} {outer : List Env} {A₀ : Around} {base h₀ : Heap} {L : Addr} {m : Str → Option Value} {s : Shared} {Q E : Value → Shared → Prop} {news : List (Addr × Obj)} {t t1 t2 t3 t4 : Tok} {v : Value} {r core : Str} {auto : List UInt8} {rb : Bool}

theorem c_attr (B : Below A₀ base outer h₀) (F : Fr h₀ L s.heap m) (X : (Mine.hd.heap_39 w.params).In h₀) (N : News h₀ L s.heap news) (T : Top p loose mean mg mb h₀) (hk : cs.kind = .function)
    (hd : dp + 1 < recursionLimit) (hu : un + 30 < cLine) (hv : Att v) (hr : attrAct v = r) (hret : ∀ h' tk' t', Fr h₀ L h' m → News h₀ L h' news → Q (.str r t') { s with heap := h', toks := tk' }) :
    wpAny (model PySem.Challenge.rw_iy0006_01.row.prog w) (ktrTop dp un gd cn cs L a ccd cl outer) (call (.ref 50) [v]) Q E s := by
  w_top off
  k_with_none
  k_with "getMethod bytes" => (k_here; (first | (with_reducible refine m_find ?_) | (with_reducible refine m_replace ?_) | (with_reducible refine m_split ?_) | (with_reducible refine m_join ?_) | (with_reducible refine m_endswith ?_)))
  k_with "compareOp In bytes bytes" => (k_here; (with_reducible show wpAny _ _ (compareOp CmpOp.In (Value.bytes _ _) (Value.bytes _ _)) _ _ _); k_dflt (refine' in_bytes (by rfl) (by k_asm) (by k_asm) (by first | exact in_cl _ | exact in_one _ _) ?_); intro h' tk' F' N')
  k_with "compareOp NotIn bytes bytes" => (k_here; (with_reducible show wpAny _ _ (compareOp CmpOp.NotIn (Value.bytes _ _) (Value.bytes _ _)) _ _ _); k_dflt (refine' notin_bytes (by rfl) (by k_asm) (by k_asm) (by first | exact in_cl _ | exact in_one _ _) ?_); intro h' tk' F' N')
  k_with "call builtin:bytes.replace" => (k_here; k_dflt (refine replace_crlf (by omega) ?_); intro t' k')
  k_with "subscriptTail" => (k_here; (with_reducible show wpAny _ _ (subscriptTail _ (Expr.Slice _ _ none _) (Value.bytes _ _) (Value.ref _)) _ _ _); (with_reducible rename Fr _ _ _ _ => F'); (with_reducible rename News _ _ _ _ => N'); k_dflt (refine' slice_any (s := ⟨_, _, _, _, _⟩) F' N' (by constructor) (by constructor) (by first | exact picked_up _ 8000 | exact picked_but _ | exact picked_two _ _ (by simp; omega)) (by simp; omega) ?_ ); intro h' t' k' F' N')
  k_with "m_enter" => (refine' code_def (by k_asm) (by k_asm) (by k_asm) (by k_asm) (by k_asm) (by exact rfl) (by exact rfl) (by assumption) (by k_is) (by k_is) (by ktr_room) (by first | exact BindsTo.of_eq rfl | exact binds_K (by k_in) rfl (by k_is) rfl rfl rfl) (by exact locs rfl) ?_ (by exact rfl) (by exact rfl) (by exact rfl) (by decide); k_whole; intro g' L' h' FG' F' N' B' X' T'; (try dsimp only); (try k_lift B'); (try k_fold))
  k_with "compareOp Is" => (k_here; (refine is_att (by assumption) (by first | exact .inl rfl | exact .inr ⟨_, rfl⟩) ?_))
  k_with "compareOp IsNot" => (k_here; (refine isnot_att (by assumption) (by first | exact .inl rfl | exact .inr ⟨_, rfl⟩) ?_))
  k_with "compareOp Eq bytes" => (k_here; (refine eq_att (by assumption) ?_))
  k_with "compareOp Eq str str" => (k_here; (refine eq_strB (by first | assumption | exact rfl) ?_))
  k_with "compareOp NotEq str str" => (k_here; (refine ne_strB (by first | assumption | exact rfl) ?_))
  (revert X; k_fill; intro X)
  have key : ∀ x, attrAct v = x → ∀ h' tk' t', Fr h₀ L h' m → News h₀ L h' news → Q (.str x t') { s with heap := h', toks := tk' } := by
    intro x hx; rw [← hx, hr]; exact hret
  clear hret hr
  refine wpAny_call ?_
  k_dflt walk_at "m_enter"
  k_steps
  all_goals exact key _ (by first | exact aa1 (by assumption) | exact aa2 (by assumption) (by assumption) | exact aa3 (by assumption) (by assumption) (by assumption) | exact aa4 (by assumption) (by assumption) (by assumption) (by assumption) | exact aa5 (by assumption) (by assumption) (by assumption) (by assumption)) _ _ _ (by k_asm) (by k_asm)

theorem es1 (h : (auto.toArray.toList == [116, 114, 117, 101].toArray.toList) = true) : eolS core auto = true := by rw [eolS, if_pos h]
theorem es2 (h0 : (auto.toArray.toList == [116, 114, 117, 101].toArray.toList) = false) (h : (auto.toArray.toList == [105, 110, 112, 117, 116].toArray.toList) = true) : eolS core auto = false := by
  rw [eolS, if_neg (by rw [show (auto == [116, 114, 117, 101]) = false from h0]; exact Bool.false_ne_true), if_pos h]
theorem es3 {rb : Bool} (h0 : (auto.toArray.toList == [116, 114, 117, 101].toArray.toList) = false) (h1 : (auto.toArray.toList == [105, 110, 112, 117, 116].toArray.toList) = false) (h : (core == Str.ofString "crlf") = rb) : eolS core auto = rb := by
  rw [eolS, if_neg (by rw [show (auto == [116, 114, 117, 101]) = false from h0]; exact Bool.false_ne_true), if_neg (by rw [show (auto == [105, 110, 112, 117, 116]) = false from h1]; exact Bool.false_ne_true), h]
theorem c_eol (B : Below A₀ base outer h₀) (F : Fr h₀ L s.heap m) (X : (Mine.hd.heap_39 w.params).In h₀) (N : News h₀ L s.heap news) (T : Top p loose mean mg mb h₀) (hk : cs.kind = .function)
    (hd : dp + 1 < recursionLimit) (hu : un + 30 < cLine) (hret : ∀ h' tk', Fr h₀ L h' m → News h₀ L h' news → Q (.bool (eolS core auto)) { s with heap := h', toks := tk' }) :
    wpAny (model PySem.Challenge.rw_iy0006_01.row.prog w) (ktrTop dp un gd cn cs L a ccd cl outer) (call (.ref 57) [.str core t1, .bytes auto.toArray t2]) Q E s := by
  w_top off
  k_with_none
  k_with "getMethod bytes" => (k_here; (first | (with_reducible refine m_find ?_) | (with_reducible refine m_replace ?_) | (with_reducible refine m_split ?_) | (with_reducible refine m_join ?_) | (with_reducible refine m_endswith ?_)))
  k_with "compareOp In bytes bytes" => (k_here; (with_reducible show wpAny _ _ (compareOp CmpOp.In (Value.bytes _ _) (Value.bytes _ _)) _ _ _); k_dflt (refine' in_bytes (by rfl) (by k_asm) (by k_asm) (by first | exact in_cl _ | exact in_one _ _) ?_); intro h' tk' F' N')
  k_with "compareOp NotIn bytes bytes" => (k_here; (with_reducible show wpAny _ _ (compareOp CmpOp.NotIn (Value.bytes _ _) (Value.bytes _ _)) _ _ _); k_dflt (refine' notin_bytes (by rfl) (by k_asm) (by k_asm) (by first | exact in_cl _ | exact in_one _ _) ?_); intro h' tk' F' N')
  k_with "call builtin:bytes.replace" => (k_here; k_dflt (refine replace_crlf (by omega) ?_); intro t' k')
  k_with "subscriptTail" => (k_here; (with_reducible show wpAny _ _ (subscriptTail _ (Expr.Slice _ _ none _) (Value.bytes _ _) (Value.ref _)) _ _ _); (with_reducible rename Fr _ _ _ _ => F'); (with_reducible rename News _ _ _ _ => N'); k_dflt (refine' slice_any (s := ⟨_, _, _, _, _⟩) F' N' (by constructor) (by constructor) (by first | exact picked_up _ 8000 | exact picked_but _ | exact picked_two _ _ (by simp; omega)) (by simp; omega) ?_ ); intro h' t' k' F' N')
  k_with "m_enter" => (refine' code_def (by k_asm) (by k_asm) (by k_asm) (by k_asm) (by k_asm) (by exact rfl) (by exact rfl) (by assumption) (by k_is) (by k_is) (by ktr_room) (by first | exact BindsTo.of_eq rfl | exact binds_K (by k_in) rfl (by k_is) rfl rfl rfl) (by exact locs rfl) ?_ (by exact rfl) (by exact rfl) (by exact rfl) (by decide); k_whole; intro g' L' h' FG' F' N' B' X' T'; (try dsimp only); (try k_lift B'); (try k_fold))
  k_with "compareOp Is" => (k_here; (refine is_att (by assumption) (by first | exact .inl rfl | exact .inr ⟨_, rfl⟩) ?_))
  k_with "compareOp IsNot" => (k_here; (refine isnot_att (by assumption) (by first | exact .inl rfl | exact .inr ⟨_, rfl⟩) ?_))
  k_with "compareOp Eq bytes" => (k_here; (refine eq_att (by assumption) ?_))
  k_with "compareOp Eq str str" => (k_here; (refine eq_strB (by first | assumption | exact rfl) ?_))
  k_with "compareOp NotEq str str" => (k_here; (refine ne_strB (by first | assumption | exact rfl) ?_))
  (revert X; k_fill; intro X)
  have key : ∀ x, eolS core auto = x → ∀ h' tk', Fr h₀ L h' m → News h₀ L h' news → Q (.bool x) { s with heap := h', toks := tk' } := by
    intro x hx; rw [← hx]; exact hret
  clear hret
  refine wpAny_call ?_
  k_dflt walk_at "m_enter"
  k_steps
  all_goals exact key _ (by first | exact es1 (by assumption) | exact es2 (by assumption) (by assumption) | exact es3 (by assumption) (by assumption) (by assumption)) _ _ (by k_asm) (by k_asm)

end
end
section
/-- the first word, else the elder one -/
def a1S (vt ve : Value) : Str := if (attrAct vt == Str.ofString "undefined") = true then attrAct ve else attrAct vt
/-- the action as the code reckons it -/
def resS (vt ve vl : Value) (core : Str) (auto : List UInt8) : Str :=
  if a1S vt ve = Str.ofString "binary" then Str.ofString "binary"
  else if isB vl [108, 102] = true then (if a1S vt ve = Str.ofString "auto" then Str.ofString "auto-input" else Str.ofString "text-input")
  else if isB vl [99, 114, 108, 102] = true then (if a1S vt ve = Str.ofString "auto" then Str.ofString "auto-crlf" else Str.ofString "text-crlf")
  else if a1S vt ve = Str.ofString "text" then (if eolS core auto = true then Str.ofString "text-crlf" else Str.ofString "text-input")
  else if a1S vt ve = Str.ofString "auto" then (if eolS core auto = true then Str.ofString "auto-crlf" else Str.ofString "auto-input")
  else if a1S vt ve = Str.ofString "text-input" then Str.ofString "text-input"
  else if (auto == [116, 114, 117, 101]) = true then Str.ofString "auto-crlf" else if (auto == [105, 110, 112, 117, 116]) = true then Str.ofString "auto-input" else Str.ofString "binary"
section
variable {vt ve vl : Value} {core : Str} {auto : List UInt8}
theorem z1 (h : a1S vt ve = Str.ofString "binary") : resS vt ve vl core auto = Str.ofString "binary" := by rw [resS, if_pos h]
theorem z2 {a : Str} (h : a1S vt ve = a) (h1 : isB vl [108, 102] = true) (n1 : a ≠ Str.ofString "binary") (n2 : a ≠ Str.ofString "auto") : resS vt ve vl core auto = Str.ofString "text-input" := by
  rw [resS, h, if_neg n1, if_pos h1, if_neg n2]
theorem z3 (h : a1S vt ve = Str.ofString "auto") (h1 : isB vl [108, 102] = true) : resS vt ve vl core auto = Str.ofString "auto-input" := by
  rw [resS, h, if_neg (by decide), if_pos h1, if_pos rfl]
theorem z4 {a : Str} (h : a1S vt ve = a) (h1 : isB vl [108, 102] = false) (h2 : isB vl [99, 114, 108, 102] = true) (n1 : a ≠ Str.ofString "binary") (n2 : a ≠ Str.ofString "auto") : resS vt ve vl core auto = Str.ofString "text-crlf" := by
  rw [resS, h, if_neg n1, if_neg (by rw [h1]; exact Bool.false_ne_true), if_pos h2, if_neg n2]
theorem z5 (h : a1S vt ve = Str.ofString "auto") (h1 : isB vl [108, 102] = false) (h2 : isB vl [99, 114, 108, 102] = true) : resS vt ve vl core auto = Str.ofString "auto-crlf" := by
  rw [resS, h, if_neg (by decide), if_neg (by rw [h1]; exact Bool.false_ne_true), if_pos h2, if_pos rfl]
theorem zn {a : Str} (h : a1S vt ve = a) (h1 : isB vl [108, 102] = false) (h2 : isB vl [99, 114, 108, 102] = false) (n1 : a ≠ Str.ofString "binary") : resS vt ve vl core auto =
    if a = Str.ofString "text" then (if eolS core auto = true then Str.ofString "text-crlf" else Str.ofString "text-input")
    else if a = Str.ofString "auto" then (if eolS core auto = true then Str.ofString "auto-crlf" else Str.ofString "auto-input")
    else if a = Str.ofString "text-input" then Str.ofString "text-input"
    else if (auto == [116, 114, 117, 101]) = true then Str.ofString "auto-crlf" else if (auto == [105, 110, 112, 117, 116]) = true then Str.ofString "auto-input" else Str.ofString "binary" := by
  rw [resS, h, if_neg n1, if_neg (by rw [h1]; exact Bool.false_ne_true), if_neg (by rw [h2]; exact Bool.false_ne_true)]
theorem z6 (h : a1S vt ve = Str.ofString "text") (h1 : isB vl [108, 102] = false) (h2 : isB vl [99, 114, 108, 102] = false) (h3 : eolS core auto = true) : resS vt ve vl core auto = Str.ofString "text-crlf" := by
  rw [zn h h1 h2 (by decide), if_pos rfl, if_pos h3]
theorem z7 (h : a1S vt ve = Str.ofString "text") (h1 : isB vl [108, 102] = false) (h2 : isB vl [99, 114, 108, 102] = false) (h3 : eolS core auto = false) : resS vt ve vl core auto = Str.ofString "text-input" := by
  rw [zn h h1 h2 (by decide), if_pos rfl, if_neg (by rw [h3]; exact Bool.false_ne_true)]
theorem z8 (h : a1S vt ve = Str.ofString "auto") (h1 : isB vl [108, 102] = false) (h2 : isB vl [99, 114, 108, 102] = false) (h3 : eolS core auto = true) : resS vt ve vl core auto = Str.ofString "auto-crlf" := by
  rw [zn h h1 h2 (by decide), if_neg (by decide), if_pos rfl, if_pos h3]
theorem z9 (h : a1S vt ve = Str.ofString "auto") (h1 : isB vl [108, 102] = false) (h2 : isB vl [99, 114, 108, 102] = false) (h3 : eolS core auto = false) : resS vt ve vl core auto = Str.ofString "auto-input" := by
  rw [zn h h1 h2 (by decide), if_neg (by decide), if_pos rfl, if_neg (by rw [h3]; exact Bool.false_ne_true)]
theorem za (h : a1S vt ve = Str.ofString "text-input") (h1 : isB vl [108, 102] = false) (h2 : isB vl [99, 114, 108, 102] = false) : resS vt ve vl core auto = Str.ofString "text-input" := by
  rw [zn h h1 h2 (by decide), if_neg (by decide), if_neg (by decide), if_pos rfl]
theorem zb (h : a1S vt ve = Str.ofString "undefined") (h1 : isB vl [108, 102] = false) (h2 : isB vl [99, 114, 108, 102] = false) (h3 : (auto.toArray.toList == [116, 114, 117, 101].toArray.toList) = true) : resS vt ve vl core auto = Str.ofString "auto-crlf" := by
  rw [zn h h1 h2 (by decide), if_neg (by decide), if_neg (by decide), if_neg (by decide), if_pos h3]
theorem zc (h : a1S vt ve = Str.ofString "undefined") (h1 : isB vl [108, 102] = false) (h2 : isB vl [99, 114, 108, 102] = false) (h3 : (auto.toArray.toList == [116, 114, 117, 101].toArray.toList) = false) (h4 : (auto.toArray.toList == [105, 110, 112, 117, 116].toArray.toList) = true) : resS vt ve vl core auto = Str.ofString "auto-input" := by
  rw [zn h h1 h2 (by decide), if_neg (by decide), if_neg (by decide), if_neg (by decide), if_neg (by rw [show (auto == [116, 114, 117, 101]) = false from h3]; exact Bool.false_ne_true), if_pos h4]
theorem zd (h : a1S vt ve = Str.ofString "undefined") (h1 : isB vl [108, 102] = false) (h2 : isB vl [99, 114, 108, 102] = false) (h3 : (auto.toArray.toList == [116, 114, 117, 101].toArray.toList) = false) (h4 : (auto.toArray.toList == [105, 110, 112, 117, 116].toArray.toList) = false) : resS vt ve vl core auto = Str.ofString "binary" := by
  rw [zn h h1 h2 (by decide), if_neg (by decide), if_neg (by decide), if_neg (by decide), if_neg (by rw [show (auto == [116, 114, 117, 101]) = false from h3]; exact Bool.false_ne_true), if_neg (by rw [show (auto == [105, 110, 112, 117, 116]) = false from h4]; exact Bool.false_ne_true)]
theorem attr5 (v : Value) : attrAct v = Str.ofString "text" ∨ attrAct v = Str.ofString "binary" ∨ attrAct v = Str.ofString "text-input" ∨ attrAct v = Str.ofString "auto" ∨ attrAct v = Str.ofString "undefined" := by
  unfold attrAct
  split
  · exact .inl rfl
  · split
    · exact .inr (.inl rfl)
    · split
      · exact .inr (.inr (.inl rfl))
      · split
        · exact .inr (.inr (.inr (.inl rfl)))
        · exact .inr (.inr (.inr (.inr rfl)))
theorem a1_first {a : Str} (h : attrAct vt = a) (hn : a ≠ Str.ofString "undefined") : a1S vt ve = a := by
  rw [a1S, h, if_neg (by rw [beq_iff_eq]; exact hn)]
theorem a1_second {a : Str} (h : attrAct vt = Str.ofString "undefined") (h2 : attrAct ve = a) : a1S vt ve = a := by
  rw [a1S, h, if_pos (by rw [beq_iff_eq]), h2]
end
section
variable {w : World} {p : Program} {loose : List Str} {mean : ExcName → Option Value} {mg mb : Str → Option Value} {dp un : Nat} {gd : Option (List Code)} {cn : Str} {cs : Scope} {a : Addr} {ccd : Value} {cl : List (Str × Addr)} {outer : List Env} {A₀ : Around} {base h₀ : Heap} {L d : Addr} {m : Str → Option Value} {s : Shared} {Q E : Value → Shared → Prop} {news : List (Addr × Obj)} {t t1 t2 t3 t4 : Tok} {v vt ve vl : Value} {r core : Str} {auto : List UInt8} {o : Obj} {kvs : List (List UInt8 × Value)}
theorem bytes_is {prog : Program} {w : World} {l : List UInt8} {t : Tok} : (bytesKind prog w).is l (.bytes l.toArray t) = true := by simp [bytesKind, isBytes]
theorem dget {prog : Program} {w : World} {A : Around} {k : List UInt8} (N : News h₀ L s.heap news) (hp : (d, o) ∈ news) (hd : o.IsDictOf (bytesKind prog w) kvs) (lo : (d == sysModules) = false) (hl : (valueAt kvs k).getD .none = v) (h : Q v { s with toks := s.toks + 1 }) :
    wpAny (model prog w) A (call (.builtin "dict.get") [.ref d, .bytes k.toArray t]) Q E s := kdg_get1 N hp hd lo bytes_is _ rfl (by rw [hl]; exact h)

/-- the end of the first two statements: the action is the first word, else the elder one -/
def EndAct (h₀ : Heap) (L : Addr) (m : Str → Option Value) (r : Str) (news : List (Addr × Obj)) (s : Shared) (f : Flow) (s₂ : Shared) : Prop :=
  f = .next ∧ ∃ h' tk' m₂ t, s₂ = { s with heap := h', toks := tk' } ∧ Fr h₀ L h' m₂ ∧ News h₀ L h' news ∧ m₂ (Str.ofString "action") = some (.str r t) ∧ ∀ z, z ≠ Str.ofString "action" → m₂ z = m z
theorem EndAct.intro {h₀ : Heap} {L : Addr} {m m₂ : Str → Option Value} {r r' : Str} {news nx : List (Addr × Obj)} {s : Shared} {h' : Heap} {tk' : Nat} {t : Tok}
    (F : Fr h₀ L h' m₂) (N : News h₀ L h' nx) (hn : ∀ p ∈ news, p ∈ nx) (e : m₂ (Str.ofString "action") = some (.str r' t)) (hr : r' = r) (ha : ∀ z, z ≠ Str.ofString "action" → m₂ z = m z) :
    EndAct h₀ L m r news s .next { s with heap := h', toks := tk' } := ⟨rfl, h', tk', m₂, t, rfl, F, fun p hp => N p (hn p hp), hr ▸ e, ha⟩
theorem act_one (h : (attrAct vt == Str.ofString "undefined") = true) : attrAct ve = a1S vt ve := by rw [a1S, if_pos h]
theorem act_two (h : (attrAct vt == Str.ofString "undefined") = false) : attrAct vt = a1S vt ve := by rw [a1S, if_neg (by rw [h]; exact Bool.false_ne_true)]
theorem a1_of5 (vt ve : Value) : ∀ r, a1S vt ve = r → r = Str.ofString "text" ∨ r = Str.ofString "binary" ∨ r = Str.ofString "text-input" ∨ r = Str.ofString "auto" ∨ r = Str.ofString "undefined" := by
  rintro r rfl
  unfold a1S
  split
  · exact attr5 ve
  · exact attr5 vt
theorem cut_act {M : Model} {A : Around} {x : Sem Flow} {Q : Flow → Shared → Prop} {t0 : Tok} (F : Fr h₀ L s.heap m) (N : News h₀ L s.heap news) (_ : m (Str.ofString "action") = some (.str (attrAct vt) t0))
    (h1 : wpAny M A x (EndAct h₀ L m (a1S vt ve) news s) E s)
    (h2 : ∀ r, a1S vt ve = r → ∀ t h' tk, Fr h₀ L h' (fun z => if z = Str.ofString "action" then some (.str r t) else m z) → News h₀ L h' news → Q .next { s with heap := h', toks := tk }) : wpAny M A x Q E s := by
  refine wpAny_mono h1 (fun f s₂ h => ?_) fun _ _ e => e
  obtain ⟨rfl, h', tk', m₂, t, rfl, F, N, e, ha⟩ := h
  refine h2 _ rfl t h' tk' ?_ N
  have em : (fun z => if z = Str.ofString "action" then some (.str (a1S vt ve) t) else m z) = m₂ := by
    funext z
    by_cases hz : z = Str.ofString "action"
    · rw [if_pos hz, hz, e]
    · rw [if_neg hz, ha z hz]
  rw [em]; exact F

theorem c_resolve (B : Below A₀ base outer h₀) (F : Fr h₀ L s.heap m) (X : (Mine.hd.heap_39 w.params).In h₀) (N : News h₀ L s.heap news) (T : Top p loose mean mg mb h₀) (hk : cs.kind = .function)
    (hd : dp + 3 < recursionLimit) (hu : un + 60 < cLine) (hvt : Att vt) (hve : Att ve) (hvl : Att vl) (hmem : (d, o) ∈ news) (hdict : o.IsDictOf (bytesKind PySem.Challenge.rw_iy0006_01.row.prog w) kvs) (lo : (d == sysModules) = false)
    (g1 : (valueAt kvs [116, 101, 120, 116]).getD .none = vt) (g2 : (valueAt kvs [99, 114, 108, 102]).getD .none = ve) (g3 : (valueAt kvs [101, 111, 108]).getD .none = vl)
    (hret : ∀ h' tk' t', Fr h₀ L h' m → News h₀ L h' news → Q (.str (resS vt ve vl core auto) t') { s with heap := h', toks := tk' }) :
    wpAny (model PySem.Challenge.rw_iy0006_01.row.prog w) (ktrTop dp un gd cn cs L a ccd cl outer) (call (.ref 65) [.ref d, .str core t1, .bytes auto.toArray t2]) Q E s := by
  w_top off
  k_with_none
  k_with "getMethod bytes" => (k_here; (first | (with_reducible refine m_find ?_) | (with_reducible refine m_replace ?_) | (with_reducible refine m_split ?_) | (with_reducible refine m_join ?_) | (with_reducible refine m_endswith ?_)))
  k_with "compareOp In bytes bytes" => (k_here; (with_reducible show wpAny _ _ (compareOp CmpOp.In (Value.bytes _ _) (Value.bytes _ _)) _ _ _); k_dflt (refine' in_bytes (by rfl) (by k_asm) (by k_asm) (by first | exact in_cl _ | exact in_one _ _) ?_); intro h' tk' F' N')
  k_with "compareOp NotIn bytes bytes" => (k_here; (with_reducible show wpAny _ _ (compareOp CmpOp.NotIn (Value.bytes _ _) (Value.bytes _ _)) _ _ _); k_dflt (refine' notin_bytes (by rfl) (by k_asm) (by k_asm) (by first | exact in_cl _ | exact in_one _ _) ?_); intro h' tk' F' N')
  k_with "call builtin:bytes.replace" => (k_here; k_dflt (refine replace_crlf (by omega) ?_); intro t' k')
  k_with "subscriptTail" => (k_here; (with_reducible show wpAny _ _ (subscriptTail _ (Expr.Slice _ _ none _) (Value.bytes _ _) (Value.ref _)) _ _ _); (with_reducible rename Fr _ _ _ _ => F'); (with_reducible rename News _ _ _ _ => N'); k_dflt (refine' slice_any (s := ⟨_, _, _, _, _⟩) F' N' (by constructor) (by constructor) (by first | exact picked_up _ 8000 | exact picked_but _ | exact picked_two _ _ (by simp; omega)) (by simp; omega) ?_ ); intro h' t' k' F' N')
  k_with "m_enter" => (refine' code_def (by k_asm) (by k_asm) (by k_asm) (by k_asm) (by k_asm) (by exact rfl) (by exact rfl) (by assumption) (by k_is) (by k_is) (by ktr_room) (by first | exact BindsTo.of_eq rfl | exact binds_K (by k_in) rfl (by k_is) rfl rfl rfl) (by exact locs rfl) ?_ (by exact rfl) (by exact rfl) (by exact rfl) (by decide); k_whole; intro g' L' h' FG' F' N' B' X' T'; (try dsimp only); (try k_lift B'); (try k_fold))
  k_with "compareOp Is" => (k_here; (refine is_att (by assumption) (by first | exact .inl rfl | exact .inr ⟨_, rfl⟩) ?_))
  k_with "compareOp IsNot" => (k_here; (refine isnot_att (by assumption) (by first | exact .inl rfl | exact .inr ⟨_, rfl⟩) ?_))
  k_with "compareOp Eq bytes" => (k_here; (refine eq_att (by assumption) ?_))
  k_with "getMethod ref" => (k_here; (with_reducible show wpAny _ _ (getMethod (Value.ref _) (Str.ofString "get") _) _ _ _); k_dflt (refine' kdg_method (knd := bytesKind _ _) (by k_asm) (by k_mem) (by k_asm) ?_))
  k_with "call builtin:dict.get" => (k_here; k_dflt (refine' dget (by k_asm) (by k_mem) (by k_asm) (by k_asm) (by assumption) ?_))
  k_with "call ref" => (k_here; (with_reducible show wpAny _ _ (call (Value.ref _) [_]) _ _ _); k_dflt (refine' c_attr (by k_asm) (by k_asm) (by k_asm) (by k_asm) (by k_asm) (by first | exact rfl | assumption) (by ktr_room) (by ktr_units) (by assumption) (by exact rfl) ?_); intro h' tk' t' F' N'; (try dsimp only); (try k_fold))
  k_with "call ref" => (k_here; (with_reducible show wpAny _ _ (call (Value.ref _) [Value.str _ _, Value.bytes (List.toArray _) _]) _ _ _); k_dflt (refine' c_eol (by k_asm) (by k_asm) (by k_asm) (by k_asm) (by k_asm) (by first | exact rfl | assumption) (by ktr_room) (by ktr_units) ?_); intro h' tk' F' N'; (try dsimp only); (try k_fold))
  k_with "exec If" => (k_here; (with_reducible show wpAny _ _ (exec (Stmt.If _ [Stmt.Assign _ (Expr.Call _ _ _ _) _] [] _) _) _ _ _); (fail_if_success (with_reducible show wpAny _ _ _ (EndAct _ _ _ _ _ _) _ _)); k_dflt (refine cut_act (vt := vt) (ve := ve) (by k_asm) (by k_asm) (by exact rfl) ?_ (fun r9 ha9 t9 h' tk' F' N' => ?_)); (rotate_left; (have h5 := a1_of5 vt ve r9 ha9); (rcases h5 with h5 | h5 | h5 | h5 | h5) <;> subst h5); rotate_right)
  k_with "compareOp Eq str str" => (k_here; (with_reducible show wpAny _ _ (compareOp CmpOp.Eq (Value.str (attrAct _) _) _) _ _ _); (refine eq_strB rfl ?_))
  (revert X; k_fill; intro X)
  have key : ∀ x, resS vt ve vl core auto = x → ∀ h' tk' t', Fr h₀ L h' m → News h₀ L h' news → Q (.str x t') { s with heap := h', toks := tk' } := by
    intro x hx; rw [← hx]; exact hret
  clear hret
  refine wpAny_call ?_
  k_dflt walk_at "m_enter"
  k_steps
  all_goals (try (refine EndAct.intro (by k_asm) (by k_asm) (fun _ hp => hp) (by with_unfolding_all rfl) (by first | exact act_one (by assumption) | exact act_two (by assumption)) (fun z h1 => by first | rfl | exact if_neg h1); done))
  all_goals (try exact key _ (by first | exact z1 (by assumption) | exact z2 (by assumption) (by assumption) (by decide) (by decide) | exact z3 (by assumption) (by assumption) | exact z4 (by assumption) (by assumption) (by assumption) (by decide) (by decide) | exact z5 (by assumption) (by assumption) (by assumption) | exact z6 (by assumption) (by assumption) (by assumption) (by assumption) | exact z7 (by assumption) (by assumption) (by assumption) (by assumption) | exact z8 (by assumption) (by assumption) (by assumption) (by assumption) | exact z9 (by assumption) (by assumption) (by assumption) (by assumption) | exact za (by assumption) (by assumption) (by assumption) | exact zb (by assumption) (by assumption) (by assumption) (by assumption) | exact zc (by assumption) (by assumption) (by assumption) (by assumption) (by assumption) | exact zd (by assumption) (by assumption) (by assumption) (by assumption) (by assumption)) _ _ _ (by k_asm) (by first | k_asm | exact drop1 (by k_asm) | exact drop2 (by k_asm)))
end
end
section
/-- the end of a turn that changes one name -/
def EndOne (h₀ : Heap) (L : Addr) (m : PySem.Str → Option Value) (x y : PySem.Str) (u : Value) (nx : List (Addr × Obj)) (s : Shared) (f : Flow) (s₂ : Shared) : Prop :=
  f = .next ∧ ∃ h' tk' m', s₂ = { s with heap := h', toks := tk' } ∧ Fr h₀ L h' m' ∧ News h₀ L h' nx ∧ m' y = some u ∧ Agree2 x y m' m
theorem EndOne.intro {h₀ : Heap} {L : Addr} {m m' : PySem.Str → Option Value} {x y : PySem.Str} {u : Value} {nx : List (Addr × Obj)} {s : Shared} {h' : Heap} {tk' : Nat} (F : Fr h₀ L h' m') (N : News h₀ L h' nx) (e : m' y = some u) (ha : Agree2 x y m' m) :
    EndOne h₀ L m x y u nx s .next { s with heap := h', toks := tk' } := ⟨rfl, h', tk', m', rfl, F, N, e, ha⟩

section
variable {prog : Program} {w : World} {A : Around} {E : Value → Shared → Prop} {s : Shared} {env : Env} {h₀ : Heap} {m : PySem.Str → Option Value} {news : List (Addr × Obj)} {l : Addr} {vs : List Value} {nn : Nat} {Q : Flow → Shared → Prop} {body : List Stmt} {x y : PySem.Str}
theorem for_word (W : Nat → Value) (hxy : y ≠ x) (hh : A.handled = none) (hl : (l, listOf vs.toArray nn) ∈ news) (F : Fr h₀ env.locals s.heap m) (N : News h₀ env.locals s.heap news) (h0 : m y = some (W 0))
    (turn : ∀ (i : Nat) v h tk own, vs[i]? = some v → Fr h₀ env.locals h (fun z => if z = x then some v else if z = y then some (W i) else m z) → News h₀ env.locals h (own ++ news) →
      wpAny (model prog w) A (execs body env) (EndOne h₀ env.locals m x y (W (i + 1)) (own ++ news) s) E { s with heap := h, toks := tk })
    (done : ∀ h' tk u, Fr h₀ env.locals h' (fun z => if z = x then u else if z = y then some (W vs.length) else m z) → News h₀ env.locals h' news → Q .next { s with heap := h', toks := tk }) :
    wpAny (model prog w) A (pyIter (.ref l)) (fun it s₂ => LoopAtV prog w A h₀ env x body Q E it s₂) E s := by
  have hol : s.heap.get? l = some (listOf vs.toArray nn) := (N _ hl).1
  have hls : s.heap.IsList l vs.toArray := ⟨_, hol, rfl, nn, rfl⟩
  have hne : l ≠ s.heap.objs.size := Nat.ne_of_lt (Heap.lt_size hol)
  refine wpAny_pyIter_list hls ?_
  have W' := Walks.list (prog := prog) (w := w) hh s.heap.objs.size l hne vs.toArray
  rw [List.size_toArray] at W'
  have em : ∀ (m' : PySem.Str → Option Value) (i : Nat) (u : Option Value), m' y = some (W i) → Agree2 x y m' m → (fun z => if z = x then u else m' z) = (fun z => if z = x then u else if z = y then some (W i) else m z) := by
    intro m' i u h1 h2
    funext z
    by_cases hz : z = x
    · rw [if_pos hz, if_pos hz]
    · rw [if_neg hz, if_neg hz]
      by_cases hz2 : z = y
      · rw [if_pos hz2, hz2, h1]
      · rw [if_neg hz2, h2 z hz hz2]
  refine ⟨_, _, _, vs.length, _, _, m, news, (fun i m' nx => nx = news ∧ m' y = some (W i) ∧ Agree2 x y m' m), rfl, W', ?_, ?_, ?_, ⟨⟨_, Heap.get?_push_size _ rfl, rfl, rfl⟩, hls.at fun o e => Heap.get?_push_of_some _ e⟩, F.push _, (fun p hp => ⟨Heap.get?_push_of_some _ (N p hp).1, (N p hp).2⟩), ⟨rfl, h0, fun _ _ _ => rfl⟩, ?_, ?_⟩
  · intro hm
    rcases List.mem_cons.mp hm with e | hm
    · exact absurd F.ns.lt (e ▸ Nat.lt_irrefl _)
    · exact (N _ hl).2.1 ((List.mem_singleton.mp hm).symm)
  · intro b hb
    rw [List.mem_singleton.mp hb]
    exact next_is_new F
  · intro p hp hI
    exact absurd (Heap.lt_size (N p hp).1) ((List.mem_singleton.mp hI) ▸ Nat.lt_irrefl _)
  · rintro i v m₁ news₁ s₁ own ⟨hh', tk', rfl⟩ hin hP ⟨rfl, hw, hag⟩ hoff hown hget hfp _ F₁ N₁
    rw [em m₁ i _ hw hag] at F₁
    refine wpAny_mono (turn i v hh' tk' own (by simpa using hP) F₁ N₁) (fun f s₂ h => ?_) fun _ _ e => e
    obtain ⟨rfl, h2, tk2, m', rfl, F₃, N₃, e1, ha⟩ := h
    exact ⟨rfl, h2, tk2, m', news₁, rfl, F₃, N₃, hoff, rfl, e1, ha⟩
  · rintro h' tk m' news' F' N' _ ⟨rfl, hw, hag⟩
    have e : m' = (fun z => if z = x then m' x else m' z) := by
      funext z
      by_cases hz : z = x
      · rw [if_pos hz, hz]
      · rw [if_neg hz]
    rw [e, em m' vs.length _ hw hag] at F'
    exact done h' tk _ F' N'
end

section
variable {prog : Program} {w : World} {A : Around} {E : Value → Shared → Prop} {s : Shared} {h₀ : Heap} {L d : Addr} {m : PySem.Str → Option Value} {news : List (Addr × Obj)} {g : Obj → List (Addr × Obj)} {o : Obj} {vs : List (Value × Value)} {kvs : List (List UInt8 × Value)} {t : Tok}
theorem made_bytes {Q : Value → Shared → Prop} (F : Fr h₀ L s.heap m) (N : News h₀ L s.heap news) (U : UpdF d o news g) (hd : o.IsDictOf (bytesKind prog w) []) (hc : Carries (bytesKind prog w) vs kvs)
    (h : ∀ h' o', Fr h₀ L h' m → News h₀ L h' (g o') → o'.IsDictOf (bytesKind prog w) (merged [] kvs) → Q (.ref d) { s with heap := h', toks := s.toks + vs.length }) : KdnMade prog w (bytesKind prog w) d Q vs s := by
  obtain ⟨pre, post, rfl, hg, a, b⟩ := U.split
  have hm := N (d, o) (List.mem_append_right _ (.head _))
  refine ⟨kvs, hc, Heap.dictOf_iff.mpr ⟨o, hm.1, hd⟩, fun h' hmm hs => ?_⟩
  obtain ⟨o', ho', hd'⟩ := Heap.dictOf_iff.mp hmm
  exact h h' o' (F.change hs hm.2.1 hm.2.2) (hg o' ▸ N.setIn a b hs ho') hd'
theorem item_bytes {value slice : PySem.Expr} {k : List UInt8} {v : Value} {Q : Value → Shared → Prop} (N : News h₀ L s.heap news) (hp : (d, o) ∈ news) (hd : o.IsDictOf (bytesKind prog w) kvs) (hl : valueAt kvs k = some v) (h : Q v { s with toks := s.toks + 1 })
    (hs : subscripted slice false (.ref d) (.bytes k.toArray t) = operate [.ref d, .bytes k.toArray t] (getItem (.ref d) (.bytes k.toArray t)) := by with_unfolding_all rfl) (hg : ∀ r, letTemporaryGo value (.ref d) r = pure () := by intro _; with_unfolding_all rfl) :
    wpAny (model prog w) A (subscriptTail value slice (.ref d) (.bytes k.toArray t)) Q E s := kda_item N hp hd bytes_is hl h hs hg
end
end
section
section
variable {v : Value}
/-- what is known of a value by its word -/
theorem at_binary (h : attrAct v = Str.ofString "binary") : v = .bool false := by
  unfold attrAct at h
  split at h
  · exact absurd h (by decide)
  · split at h
    · rename_i q; exact eq_of_beq q
    · split at h
      · exact absurd h (by decide)
      · split at h <;> exact absurd h (by decide)

end

def isW (v : Value) : Bool := (v == .bool true) || (v == .bool false) || isB v [105, 110, 112, 117, 116] || isB v [97, 117, 116, 111]
/-- a turn of the law's search for the word -/
def step (u v : Value) : Value := if ((u == .none) && isW v) = true then v else u
def wordSeq (vt ve : Value) (i : Nat) : Value := (List.take i [vt, ve]).foldl step .none
section
variable {vt ve vl u v w1 : Value} {core : Str} {auto : List UInt8} {i : Nat}
theorem att_step (hu : Att u) (hv : Att v) : Att (step u v) := by unfold step; split <;> assumption
theorem att_two (h1 : Att vt) (h2 : Att ve) (hv : [vt, ve][i]? = some v) : Att v := by
  have := List.mem_of_getElem? hv
  simp at this
  rcases this with rfl | rfl <;> assumption
theorem att_W (h1 : Att vt) (h2 : Att ve) (i : Nat) : Att (wordSeq vt ve i) := by
  unfold wordSeq
  match i with
  | 0 => exact .inl rfl
  | 1 => exact att_step (.inl rfl) h1
  | i + 2 =>
    have : List.take (i + 2) [vt, ve] = [vt, ve] := List.take_of_length_le (by simp)
    rw [this]; exact att_step (att_step (.inl rfl) h1) h2
theorem W_step (hv : [vt, ve][i]? = some v) : wordSeq vt ve (i + 1) = step (wordSeq vt ve i) v := by
  unfold wordSeq
  rw [List.take_add_one, hv, List.foldl_append]; rfl
theorem sp1 (h : (u == .none) = true) (h1 : (v == .bool true) = true) : step u v = v := by rw [step, h, isW, h1]; rfl
theorem sp2 (h : (u == .none) = true) (h1 : (v == .bool false) = true) : step u v = v := by rw [step, h, isW, h1]; cases (v == .bool true) <;> rfl
theorem sp3 (h : (u == .none) = true) (h1 : isB v [105, 110, 112, 117, 116] = true) : step u v = v := by rw [step, h, isW, h1]; cases (v == .bool true) <;> cases (v == .bool false) <;> rfl
theorem sp4 (h : (u == .none) = true) (h1 : isB v [97, 117, 116, 111] = true) : step u v = v := by rw [step, h, isW, h1]; cases (v == .bool true) <;> cases (v == .bool false) <;> cases isB v [105, 110, 112, 117, 116] <;> rfl
theorem sp5 (h1 : (v == .bool true) = false) (h2 : (v == .bool false) = false) (h3 : isB v [105, 110, 112, 117, 116] = false) (h4 : isB v [97, 117, 116, 111] = false) : step u v = u := by rw [step, isW, h1, h2, h3, h4]; cases (u == .none) <;> rfl
theorem sp6 (h : (u == .none) = false) : step u v = u := by rw [step, h]; rfl

theorem isW_attr (v : Value) : isW v = false ↔ attrAct v = Str.ofString "undefined" := by
  unfold isW attrAct
  cases h1 : (v == .bool true) <;> cases h2 : (v == .bool false) <;> cases h3 : isB v [105, 110, 112, 117, 116] <;> cases h4 : isB v [97, 117, 116, 111] <;> simp <;> decide
theorem word_act (vt ve : Value) : a1S vt ve = attrAct (wordSeq vt ve 2) := by
  have e : wordSeq vt ve 2 = step (step .none vt) ve := rfl
  rw [e]
  cases h : isW vt with
  | false =>
    have h1 : step .none vt = .none := by rw [step, h]; rfl
    rw [h1]
    have h2 := (isW_attr vt).mp h
    rw [a1_second h2 rfl]
    cases h3 : isW ve with
    | false =>
      have : step .none ve = .none := by rw [step, h3]; rfl
      rw [this, (isW_attr ve).mp h3]; decide
    | true =>
      have : step .none ve = ve := by rw [step, h3]; rfl
      rw [this]
  | true =>
    have h1 : step .none vt = vt := by rw [step, h]; rfl
    have hn : (vt == .none) = false := by
      cases hq : (vt == .none) with
      | false => rfl
      | true => rw [eq_of_beq hq] at h; exact absurd h (by decide)
    rw [h1, sp6 hn]
    exact a1_first rfl fun q => by
      rw [(isW_attr vt).mpr q] at h; cases h
theorem wa_false (h : (wordSeq vt ve 2 == .bool false) = true) : a1S vt ve = Str.ofString "binary" := by
  rw [word_act, eq_of_beq h]; decide
theorem wa_none (h : (wordSeq vt ve 2 == .none) = true) : a1S vt ve = Str.ofString "undefined" := by
  rw [word_act, eq_of_beq h]; decide
theorem isB_nb {v : Value} {l : List UInt8} (h : isB v l = true) : (v == .bool true) = false ∧ (v == .bool false) = false := by
  unfold isB at h
  split at h
  · exact ⟨rfl, rfl⟩
  · cases h
theorem isB_two {v : Value} {l k : List UInt8} (h : isB v l = true) (hn : l ≠ k) : isB v k = false := by
  unfold isB at h ⊢
  split at h
  · rw [eq_of_beq h]; simpa using hn
  · cases h
theorem wa_input (h : isB (wordSeq vt ve 2) [105, 110, 112, 117, 116] = true) : a1S vt ve = Str.ofString "text-input" := by
  rw [word_act]; exact aa3 (isB_nb h).1 (isB_nb h).2 h
theorem wa_auto (h : isB (wordSeq vt ve 2) [97, 117, 116, 111] = true) : a1S vt ve = Str.ofString "auto" := by
  rw [word_act]; exact aa4 (isB_nb h).1 (isB_nb h).2 (isB_two h (by decide)) h
theorem wa_text (h1 : (wordSeq vt ve 2 == .bool false) = false) (h2 : (wordSeq vt ve 2 == .none) = false) (h3 : isB (wordSeq vt ve 2) [105, 110, 112, 117, 116] = false) (h4 : isB (wordSeq vt ve 2) [97, 117, 116, 111] = false) : a1S vt ve = Str.ofString "text" := by
  rw [word_act]
  have hW : isW (wordSeq vt ve 2) = true := by
    have e : wordSeq vt ve 2 = step (step .none vt) ve := rfl
    rw [e] at h2 ⊢
    cases a : isW vt with
    | true =>
      have h1 : step .none vt = vt := by rw [step, a]; rfl
      have hn : (vt == .none) = false := by
        cases hq : (vt == .none) with
        | false => rfl
        | true => rw [eq_of_beq hq] at a; exact absurd a (by decide)
      rw [h1, sp6 hn]; exact a
    | false =>
      have h1 : step .none vt = .none := by rw [step, a]; rfl
      rw [h1] at h2 ⊢
      cases b : isW ve with
      | true =>
        have : step .none ve = ve := by rw [step, b]; rfl
        rw [this]; exact b
      | false =>
        have : step .none ve = .none := by rw [step, b]; rfl
        rw [this] at h2; cases h2
  refine aa1 ?_
  cases q : (wordSeq vt ve 2 == .bool true) with
  | true => rfl
  | false => rw [isW, q, h1, h3, h4] at hW; cases hW
theorem wa_nb (h : (wordSeq vt ve 2 == .bool false) = false) : a1S vt ve ≠ Str.ofString "binary" := by
  rw [word_act]; intro q
  rw [at_binary q] at h; cases h
theorem wa_na (h : isB (wordSeq vt ve 2) [97, 117, 116, 111] = false) : a1S vt ve ≠ Str.ofString "auto" := by
  rw [word_act]
  intro q
  unfold attrAct at q
  split at q
  · exact absurd q (by decide)
  · split at q
    · exact absurd q (by decide)
    · split at q
      · exact absurd q (by decide)
      · split at q
        · rename_i h2; rw [h] at h2; cases h2
        · exact absurd q (by decide)
theorem eol_f {r : Bool} (h : (auto.toArray.toList == [102, 97, 108, 115, 101].toArray.toList) = true) (h2 : (core == Str.ofString "crlf") = r) : eolS core auto = r := by
  have : auto = [102, 97, 108, 115, 101] := eq_of_beq h
  subst this; rw [← h2]; rfl
theorem eol_t {r : Bool} (hau : auto = [116, 114, 117, 101] ∨ auto = [105, 110, 112, 117, 116] ∨ auto = [102, 97, 108, 115, 101]) (h : (auto.toArray.toList == [102, 97, 108, 115, 101].toArray.toList) = false) (h2 : (auto.toArray.toList == [116, 114, 117, 101].toArray.toList) = r) : eolS core auto = r := by
  rcases hau with rfl | rfl | rfl
  · rw [← h2]; rfl
  · rw [← h2]; rfl
  · exact absurd h (by decide)
end

theorem no_two {v : Value} (h1 : isB v [108, 102] = true) (h2 : isB v [99, 114, 108, 102] = true) : False := by rw [isB_two h1 (by decide)] at h2; cases h2
theorem no_none_auto {v : Value} (h1 : (v == .none) = true) (h2 : isB v [97, 117, 116, 111] = true) : False := by rw [eq_of_beq h1] at h2; cases h2
theorem no_in_auto {v : Value} (h1 : isB v [105, 110, 112, 117, 116] = true) (h2 : isB v [97, 117, 116, 111] = true) : False := by rw [isB_two h1 (by decide)] at h2; cases h2
theorem en1 {h₀ : Heap} {L : Addr} {m m' : PySem.Str → Option Value} {x y : PySem.Str} {u v : Value} {nx : List (Addr × Obj)} {s : Shared} {h' : Heap} {tk' : Nat} (F : Fr h₀ L h' m') (N : News h₀ L h' nx) (hq : step u v = v) (e : m' y = some v) (ha : Agree2 x y m' m) :
    EndOne h₀ L m x y (step u v) nx s .next { s with heap := h', toks := tk' } := EndOne.intro F N (e.trans (congrArg some hq.symm)) ha
theorem en2 {h₀ : Heap} {L : Addr} {m m' : PySem.Str → Option Value} {x y : PySem.Str} {u v : Value} {nx : List (Addr × Obj)} {s : Shared} {h' : Heap} {tk' : Nat} (F : Fr h₀ L h' m') (N : News h₀ L h' nx) (hq : step u v = u) (e : m' y = some u) (ha : Agree2 x y m' m) :
    EndOne h₀ L m x y (step u v) nx s .next { s with heap := h', toks := tk' } := EndOne.intro F N (e.trans (congrArg some hq.symm)) ha
theorem carries_nil {prog : Program} {w : World} : Carries (bytesKind prog w) [] [] := trivial
theorem carries_cons {prog : Program} {w : World} {k : List UInt8} {t : Tok} {v : Value} {vs : List (Value × Value)} {kvs : List (List UInt8 × Value)} (c : Carries (bytesKind prog w) vs kvs) : Carries (bytesKind prog w) ((.bytes k.toArray t, v) :: vs) ((k, v) :: kvs) := ⟨bytes_is, rfl, c⟩
theorem made_bytesN {prog : Program} {w : World} {s : Shared} {h₀ : Heap} {L d : Addr} {m : PySem.Str → Option Value} {news : List (Addr × Obj)} {g : Obj → List (Addr × Obj)} {o : Obj} {vs : List (Value × Value)} {kvs : List (List UInt8 × Value)} {Q : Value → Shared → Prop} (F : Fr h₀ L s.heap m) (N : News h₀ L s.heap news) (U : UpdF d o news g) (hd : o.IsDictOf (bytesKind prog w) []) (hc : Carries (bytesKind prog w) vs kvs) (hn : (kvs.map (·.1)).Nodup)
    (h : ∀ h' o', Fr h₀ L h' m → News h₀ L h' (g o') → o'.IsDictOf (bytesKind prog w) kvs → Q (.ref d) { s with heap := h', toks := s.toks + vs.length }) : KdnMade prog w (bytesKind prog w) d Q vs s :=
  made_bytes F N U hd hc fun h' o' F' N' x => h h' o' F' N' (by rw [merged_nil_of_nodup _ hn] at x; exact x)
theorem item3 {prog : Program} {w : World} {A : Around} {E : Value → Shared → Prop} {s : Shared} {h₀ : Heap} {L d : Addr} {news : List (Addr × Obj)} {o : Obj} {auto : List UInt8} {t : Tok} {v1 v2 v3 : Value} {value slice : PySem.Expr} {Q : Value → Shared → Prop}
    (hau : auto = [116, 114, 117, 101] ∨ auto = [105, 110, 112, 117, 116] ∨ auto = [102, 97, 108, 115, 101]) (N : News h₀ L s.heap news) (hp : (d, o) ∈ news) (hd : o.IsDictOf (bytesKind prog w) [([116, 114, 117, 101], v1), ([105, 110, 112, 117, 116], v2), ([102, 97, 108, 115, 101], v3)])
    (h1 : (auto.toArray.toList == [116, 114, 117, 101].toArray.toList) = true → Q v1 { s with toks := s.toks + 1 })
    (h2 : (auto.toArray.toList == [116, 114, 117, 101].toArray.toList) = false → (auto.toArray.toList == [105, 110, 112, 117, 116].toArray.toList) = true → Q v2 { s with toks := s.toks + 1 })
    (h3 : (auto.toArray.toList == [116, 114, 117, 101].toArray.toList) = false → (auto.toArray.toList == [105, 110, 112, 117, 116].toArray.toList) = false → Q v3 { s with toks := s.toks + 1 })
    (hs : subscripted slice false (.ref d) (.bytes auto.toArray t) = operate [.ref d, .bytes auto.toArray t] (getItem (.ref d) (.bytes auto.toArray t)) := by with_unfolding_all rfl) (hg : ∀ r, letTemporaryGo value (.ref d) r = pure () := by intro _; with_unfolding_all rfl) :
    wpAny (model prog w) A (subscriptTail value slice (.ref d) (.bytes auto.toArray t)) Q E s := by
  rcases hau with rfl | rfl | rfl
  · exact item_bytes N hp hd rfl (h1 rfl) hs hg
  · exact item_bytes N hp hd rfl (h2 rfl rfl) hs hg
  · exact item_bytes N hp hd rfl (h3 rfl rfl) hs hg
theorem for_word2 {prog : Program} {w : World} {A : Around} {E : Value → Shared → Prop} {s : Shared} {env : Env} {h₀ : Heap} {m : PySem.Str → Option Value} {news : List (Addr × Obj)} {l : Addr} {nn : Nat} {Q : Flow → Shared → Prop} {body : List Stmt} {x y : PySem.Str} {vt ve : Value}
    (hvt : Att vt) (hve : Att ve) (hxy : y ≠ x) (hh : A.handled = none) (hl : (l, listOf #[vt, ve] nn) ∈ news) (F : Fr h₀ env.locals s.heap m) (N : News h₀ env.locals s.heap news) (h0 : m y = some .none)
    (turn : ∀ u v h tk own, Att u → Att v → Fr h₀ env.locals h (fun z => if z = x then some v else if z = y then some u else m z) → News h₀ env.locals h (own ++ news) →
      wpAny (model prog w) A (execs body env) (EndOne h₀ env.locals m x y (step u v) (own ++ news) s) E { s with heap := h, toks := tk })
    (done : ∀ h' tk u, Att (wordSeq vt ve 2) → Fr h₀ env.locals h' (fun z => if z = x then u else if z = y then some (wordSeq vt ve 2) else m z) → News h₀ env.locals h' news → Q .next { s with heap := h', toks := tk }) :
    wpAny (model prog w) A (pyIter (.ref l)) (fun it s₂ => LoopAtV prog w A h₀ env x body Q E it s₂) E s :=
  for_word (vs := [vt, ve]) (wordSeq vt ve) hxy hh hl F N h0 (fun i v h tk own hv F' N' => by
    rw [W_step hv]
    exact turn _ v h tk own (att_W hvt hve i) (att_two hvt hve hv) F' N') fun h' tk u F' N' => done h' tk u (att_W hvt hve 2) F' N'

section
variable {w : World} {p : Program} {loose : List Str} {mean : ExcName → Option Value} {mg mb : Str → Option Value} {dp un : Nat} {gd : Option (List Code)} {cn : Str} {cs : Scope} {a : Addr} {ccd : Value} {cl : List (Str × Addr)} {outer : List Env} {A₀ : Around} {base h₀ : Heap} {L d : Addr} {m : Str → Option Value} {s : Shared} {Q E : Value → Shared → Prop} {news : List (Addr × Obj)} {t t1 t2 t3 t4 : Tok} {v vt ve vl : Value} {r core : Str} {auto : List UInt8}

theorem c_law_action (B : Below A₀ base outer h₀) (F : Fr h₀ L s.heap m) (X : (Mine.hd.heap_39 w.params).In h₀) (N : News h₀ L s.heap news) (T : Top p loose mean mg mb h₀) (hk : cs.kind = .function)
    (hd : dp + 3 < recursionLimit) (hu : un + 60 < cLine) (hvt : Att vt) (hve : Att ve) (hvl : Att vl) (hau : auto = [116, 114, 117, 101] ∨ auto = [105, 110, 112, 117, 116] ∨ auto = [102, 97, 108, 115, 101])
    (hret : ∀ h' tk' t', Fr h₀ L h' m → News h₀ L h' news → Q (.str (resS vt ve vl core auto) t') { s with heap := h', toks := tk' }) :
    wpAny (model PySem.Challenge.rw_iy0006_01.row.prog w) (ktrTop dp un gd cn cs L a ccd cl outer) (call (.ref 161) [vt, ve, vl, .str core t1, .bytes auto.toArray t2]) Q E s := by
  w_top off
  k_with_none
  k_with "getMethod bytes" => (k_here; (first | (with_reducible refine m_find ?_) | (with_reducible refine m_replace ?_) | (with_reducible refine m_split ?_) | (with_reducible refine m_join ?_) | (with_reducible refine m_endswith ?_)))
  k_with "compareOp In bytes bytes" => (k_here; (with_reducible show wpAny _ _ (compareOp CmpOp.In (Value.bytes _ _) (Value.bytes _ _)) _ _ _); k_dflt (refine' in_bytes (by rfl) (by k_asm) (by k_asm) (by first | exact in_cl _ | exact in_one _ _) ?_); intro h' tk' F' N')
  k_with "compareOp NotIn bytes bytes" => (k_here; (with_reducible show wpAny _ _ (compareOp CmpOp.NotIn (Value.bytes _ _) (Value.bytes _ _)) _ _ _); k_dflt (refine' notin_bytes (by rfl) (by k_asm) (by k_asm) (by first | exact in_cl _ | exact in_one _ _) ?_); intro h' tk' F' N')
  k_with "call builtin:bytes.replace" => (k_here; k_dflt (refine replace_crlf (by omega) ?_); intro t' k')
  k_with "subscriptTail" => (k_here; (with_reducible show wpAny _ _ (subscriptTail _ (Expr.Slice _ _ none _) (Value.bytes _ _) (Value.ref _)) _ _ _); (with_reducible rename Fr _ _ _ _ => F'); (with_reducible rename News _ _ _ _ => N'); k_dflt (refine' slice_any (s := ⟨_, _, _, _, _⟩) F' N' (by constructor) (by constructor) (by first | exact picked_up _ 8000 | exact picked_but _ | exact picked_two _ _ (by simp; omega)) (by simp; omega) ?_ ); intro h' t' k' F' N')
  k_with "m_enter" => (refine' code_def (by k_asm) (by k_asm) (by k_asm) (by k_asm) (by k_asm) (by exact rfl) (by exact rfl) (by assumption) (by k_is) (by k_is) (by ktr_room) (by first | exact BindsTo.of_eq rfl | exact binds_K (by k_in) rfl (by k_is) rfl rfl rfl) (by exact locs rfl) ?_ (by exact rfl) (by exact rfl) (by exact rfl) (by decide); k_whole; intro g' L' h' FG' F' N' B' X' T'; (try dsimp only); (try k_lift B'); (try k_fold))
  k_with "compareOp Is" => (k_here; (refine is_att (by assumption) (by first | exact .inl rfl | exact .inr ⟨_, rfl⟩) ?_))
  k_with "compareOp IsNot" => (k_here; (refine isnot_att (by assumption) (by first | exact .inl rfl | exact .inr ⟨_, rfl⟩) ?_))
  k_with "compareOp Eq bytes" => (k_here; (refine eq_att (by assumption) ?_))
  k_with "eval Dict" => (k_here; (with_reducible show wpAny _ _ (eval (Expr.Dict (some (Expr.Constant (Const.bytes _) _ _) :: _) _ _) _) _ _ _); k_dflt (refine' kdn_eval (knd := bytesKind _ _) (by k_asm) (by first | k_asm | exact News.nil) (by exact Top.nolimit (by k_asm)) (by rfl) (by rfl) (by exact List.cons_ne_nil _ _) (by exact Nat.le_of_ble_eq_true rfl) ?_); intro d' h' o' F' N' l1 lo' hd'; (try k_lt l1))
  k_with "KdnMade" => (k_here; k_dflt (refine' made_bytesN (by k_asm) (by k_asm) (by exact UpdF.head (fun q hq => Nat.ne_of_lt (kst_ltOf (by first | assumption | exact allLt_of (by assumption) | exact And.right (by assumption)) q hq))) (by k_asm) (by (repeat' (first | exact carries_nil | apply carries_cons))) (by exact of_decide_eq_true (by first | rfl | kernel_rfl!)) ?_; intro h' o' F' N' hd'); (try dsimp only at N'))
  k_with "subscriptTail" => (k_here; (with_reducible show wpAny _ _ (subscriptTail _ _ (Value.ref _) (Value.bytes (List.toArray _) _)) _ _ _); k_dflt (refine' item3 (by assumption) (by k_asm) (by exact List.Mem.head _) (by k_asm) (fun g1 => ?_) (fun g1 g2 => ?_) (fun g1 g2 => ?_)))
  k_with "m_iter" => (k_here; (with_reducible show wpAny _ _ (pyIter (Value.ref _)) (fun it s₂ => LoopAtV _ _ _ _ _ _ _ _ _ it s₂) _ _); (rename News _ _ _ _ => N9); (rename Fr _ _ _ _ => F9); k_dflt (refine for_word2 (y := Str.ofString "word") (by assumption) (by assumption) (by decide) (by rfl) (List.Mem.head _) F9 N9 (by rfl) (fun u v h tk own hAu hAv F' N' => ?_) (fun h' tk u hAw F' N' => ?_)))
  (revert X; k_fill; intro X)
  have key : ∀ x, resS vt ve vl core auto = x → ∀ h' tk' t', Fr h₀ L h' m → News h₀ L h' news → Q (.str x t') { s with heap := h', toks := tk' } := by
    intro x hx; rw [← hx]; exact hret
  clear hret
  refine wpAny_call ?_
  k_dflt walk_at "m_enter"
  k_steps
  all_goals (first
    | exact en1 (by k_asm) (by k_asm) (by first | exact sp1 (by assumption) (by assumption) | exact sp2 (by assumption) (by assumption) | exact sp3 (by assumption) (by assumption) | exact sp4 (by assumption) (by assumption)) (by rfl) (by intro z h1 h2; simp only [h1, h2, if_false])
    | exact en2 (by k_asm) (by k_asm) (by first | exact sp5 (by assumption) (by assumption) (by assumption) (by assumption) | exact sp6 (by assumption)) (by rfl) (by intro z h1 h2; simp only [h1, h2, if_false])
    | exact (no_two (by assumption) (by assumption)).elim
    | exact (no_none_auto (by assumption) (by assumption)).elim
    | exact (no_in_auto (by assumption) (by assumption)).elim
    | exact key _ (by first | exact z1 (wa_false (by assumption)) | exact z2 rfl (by assumption) (wa_nb (by assumption)) (wa_na (by assumption)) | exact z3 (wa_auto (by assumption)) (by assumption) | exact z4 rfl (by assumption) (by assumption) (wa_nb (by assumption)) (wa_na (by assumption)) | exact z5 (wa_auto (by assumption)) (by assumption) (by assumption) | exact z6 (wa_text (by assumption) (by assumption) (by assumption) (by assumption)) (by assumption) (by assumption) (by first | exact eol_f (by assumption) (by assumption) | exact eol_t (by assumption) (by assumption) (by assumption)) | exact z7 (wa_text (by assumption) (by assumption) (by assumption) (by assumption)) (by assumption) (by assumption) (by first | exact eol_f (by assumption) (by assumption) | exact eol_t (by assumption) (by assumption) (by assumption)) | exact z8 (wa_auto (by assumption)) (by assumption) (by assumption) (by first | exact eol_f (by assumption) (by assumption) | exact eol_t (by assumption) (by assumption) (by assumption)) | exact z9 (wa_auto (by assumption)) (by assumption) (by assumption) (by first | exact eol_f (by assumption) (by assumption) | exact eol_t (by assumption) (by assumption) (by assumption)) | exact za (wa_input (by assumption)) (by assumption) (by assumption) | exact zb (wa_none (by assumption)) (by assumption) (by assumption) (by assumption) | exact zc (wa_none (by assumption)) (by assumption) (by assumption) (by assumption) (by assumption) | exact zd (wa_none (by assumption)) (by assumption) (by assumption) (by assumption) (by assumption)) _ _ _ (by k_asm) (by first | k_asm | exact drop1 (by k_asm) | exact drop2 (by k_asm))
    | skip)
  all_goals w_report
end
end
section
section
variable {w : World} {p : Program} {loose : List Str} {mean : ExcName → Option Value} {mg mb : Str → Option Value} {dp un : Nat} {gd : Option (List Code)} {cn : Str} {cs : Scope} {a : Addr} {ccd : Value} {cl : List (Str × Addr)} {outer : List Env} {A₀ : Around} {base h₀ : Heap} {L d : Addr} {m : Str → Option Value} {s : Shared} {Q E : Value → Shared → Prop} {news : List (Addr × Obj)} {t t1 t2 t3 t4 : Tok} {v vt ve vl : Value} {r core : Str} {auto l : List UInt8}
theorem c_values (B : Below A₀ base outer h₀) (F : Fr h₀ L s.heap m) (X : (Mine.hd.heap_39 w.params).In h₀) (N : News h₀ L s.heap news) (T : Top p loose mean mg mb h₀) (hk : cs.kind = .function)
    (hd : dp + 3 < recursionLimit) (hu : un + 60 < cLine) (hret : ∀ D (vs : List Value) h' tk', (∀ v ∈ vs, Att v) → vs.length = 8 → Fr h₀ L h' m → News h₀ L h' ((D, listOf vs.toArray 0) :: news) → (∀ q ∈ news, q.1 < D) → Q (.ref D) { s with heap := h', toks := tk' }) :
    wpAny (model PySem.Challenge.rw_iy0006_01.row.prog w) (ktrTop dp un gd cn cs L a ccd cl outer) (call (.ref 147) []) Q E s := by
  w_top off
  k_with_none
  k_with "getMethod bytes" => (k_here; (first | (with_reducible refine m_find ?_) | (with_reducible refine m_replace ?_) | (with_reducible refine m_split ?_) | (with_reducible refine m_join ?_) | (with_reducible refine m_endswith ?_)))
  k_with "compareOp In bytes bytes" => (k_here; (with_reducible show wpAny _ _ (compareOp CmpOp.In (Value.bytes _ _) (Value.bytes _ _)) _ _ _); k_dflt (refine' in_bytes (by rfl) (by k_asm) (by k_asm) (by first | exact in_cl _ | exact in_one _ _) ?_); intro h' tk' F' N')
  k_with "compareOp NotIn bytes bytes" => (k_here; (with_reducible show wpAny _ _ (compareOp CmpOp.NotIn (Value.bytes _ _) (Value.bytes _ _)) _ _ _); k_dflt (refine' notin_bytes (by rfl) (by k_asm) (by k_asm) (by first | exact in_cl _ | exact in_one _ _) ?_); intro h' tk' F' N')
  k_with "call builtin:bytes.replace" => (k_here; k_dflt (refine replace_crlf (by omega) ?_); intro t' k')
  k_with "subscriptTail" => (k_here; (with_reducible show wpAny _ _ (subscriptTail _ (Expr.Slice _ _ none _) (Value.bytes _ _) (Value.ref _)) _ _ _); (with_reducible rename Fr _ _ _ _ => F'); (with_reducible rename News _ _ _ _ => N'); k_dflt (refine' slice_any (s := ⟨_, _, _, _, _⟩) F' N' (by constructor) (by constructor) (by first | exact picked_up _ 8000 | exact picked_but _ | exact picked_two _ _ (by simp; omega)) (by simp; omega) ?_ ); intro h' t' k' F' N')
  k_with "m_enter" => (refine' code_def (by k_asm) (by k_asm) (by k_asm) (by k_asm) (by k_asm) (by exact rfl) (by exact rfl) (by assumption) (by k_is) (by k_is) (by ktr_room) (by first | exact BindsTo.of_eq rfl | exact binds_K (by k_in) rfl (by k_is) rfl rfl rfl) (by exact locs rfl) ?_ (by exact rfl) (by exact rfl) (by exact rfl) (by decide); k_whole; intro g' L' h' FG' F' N' B' X' T'; (try dsimp only); (try k_lift B'); (try k_fold))
  (revert X; k_fill; intro X)
  refine wpAny_call ?_
  k_dflt walk_at "m_enter"
  k_steps
  all_goals refine hret _ _ _ _ ?_ ?_ (by k_asm) (by k_asm) (by assumption)
  · simp [Att]
  · rfl

theorem c_pieces (B : Below A₀ base outer h₀) (F : Fr h₀ L s.heap m) (X : (Mine.hd.heap_39 w.params).In h₀) (N : News h₀ L s.heap news) (T : Top p loose mean mg mb h₀) (hk : cs.kind = .function)
    (hd : dp + 3 < recursionLimit) (hu : un + 60 < cLine) (hret : ∀ D (vs : List Value) h' tk', (∀ v ∈ vs, ∃ (l : List UInt8) (t : Tok), v = .bytes l.toArray t ∧ l.length ≤ 3) → vs.length = 8 → Fr h₀ L h' m → News h₀ L h' ((D, listOf vs.toArray 0) :: news) → (∀ q ∈ news, q.1 < D) → Q (.ref D) { s with heap := h', toks := tk' }) :
    wpAny (model PySem.Challenge.rw_iy0006_01.row.prog w) (ktrTop dp un gd cn cs L a ccd cl outer) (call (.ref 154) []) Q E s := by
  w_top off
  k_with_none
  k_with "getMethod bytes" => (k_here; (first | (with_reducible refine m_find ?_) | (with_reducible refine m_replace ?_) | (with_reducible refine m_split ?_) | (with_reducible refine m_join ?_) | (with_reducible refine m_endswith ?_)))
  k_with "compareOp In bytes bytes" => (k_here; (with_reducible show wpAny _ _ (compareOp CmpOp.In (Value.bytes _ _) (Value.bytes _ _)) _ _ _); k_dflt (refine' in_bytes (by rfl) (by k_asm) (by k_asm) (by first | exact in_cl _ | exact in_one _ _) ?_); intro h' tk' F' N')
  k_with "compareOp NotIn bytes bytes" => (k_here; (with_reducible show wpAny _ _ (compareOp CmpOp.NotIn (Value.bytes _ _) (Value.bytes _ _)) _ _ _); k_dflt (refine' notin_bytes (by rfl) (by k_asm) (by k_asm) (by first | exact in_cl _ | exact in_one _ _) ?_); intro h' tk' F' N')
  k_with "call builtin:bytes.replace" => (k_here; k_dflt (refine replace_crlf (by omega) ?_); intro t' k')
  k_with "subscriptTail" => (k_here; (with_reducible show wpAny _ _ (subscriptTail _ (Expr.Slice _ _ none _) (Value.bytes _ _) (Value.ref _)) _ _ _); (with_reducible rename Fr _ _ _ _ => F'); (with_reducible rename News _ _ _ _ => N'); k_dflt (refine' slice_any (s := ⟨_, _, _, _, _⟩) F' N' (by constructor) (by constructor) (by first | exact picked_up _ 8000 | exact picked_but _ | exact picked_two _ _ (by simp; omega)) (by simp; omega) ?_ ); intro h' t' k' F' N')
  k_with "m_enter" => (refine' code_def (by k_asm) (by k_asm) (by k_asm) (by k_asm) (by k_asm) (by exact rfl) (by exact rfl) (by assumption) (by k_is) (by k_is) (by ktr_room) (by first | exact BindsTo.of_eq rfl | exact binds_K (by k_in) rfl (by k_is) rfl rfl rfl) (by exact locs rfl) ?_ (by exact rfl) (by exact rfl) (by exact rfl) (by decide); k_whole; intro g' L' h' FG' F' N' B' X' T'; (try dsimp only); (try k_lift B'); (try k_fold))
  (revert X; k_fill; intro X)
  refine wpAny_call ?_
  k_dflt walk_at "m_enter"
  k_steps
  all_goals refine hret _ _ _ _ ?_ ?_ (by k_asm) (by k_asm) (by assumption)
  · intro v hv
    simp only [List.mem_cons, List.not_mem_nil, or_false] at hv
    rcases hv with rfl | rfl | rfl | rfl | rfl | rfl | rfl | rfl <;> exact ⟨_, _, rfl, by decide⟩
  · rfl
end
end
section
def intsL (l : List UInt8) : List Int := l.map fun c => ((c.toNat : Nat) : Int)
theorem intsL_append (l r : List UInt8) : intsL (l ++ r) = intsL l ++ intsL r := by simp [intsL]
theorem intsL_range (l : List UInt8) : ∀ n ∈ intsL l, 0 ≤ n ∧ n < 256 := by
  intro n hn
  obtain ⟨c, _, rfl⟩ := List.mem_map.mp hn
  have := UInt8.toNat_lt c
  exact ⟨Int.natCast_nonneg _, by omega⟩
theorem intsL_back (l : List UInt8) : (intsL l).map (fun n => n.toNat.toUInt8) = l := by
  rw [intsL, List.map_map]
  conv => rhs; rw [← List.map_id l]
  refine List.map_congr_left fun c _ => ?_
  simp
def Gs (l : List UInt8) (acc : List Int) (k : Int) : List Int := if (l.drop k.toNat).take 2 = [13, 10] then acc else acc ++ [((l.getD k.toNat 0).toNat : Int)]
theorem Gs_grows (l : List UInt8) : KPfGrows (Gs l) := by
  intro acc k
  unfold Gs
  split
  · omega
  · simp
theorem Gs_fold (l : List UInt8) (ks : List Nat) : ∀ acc, (ks.map fun (i : Nat) => (0 : Int) + (i : Int)).foldl (Gs l) acc = acc ++ intsL ((ks.filter (fun k => decide ((l.drop k).take 2 ≠ [13, 10]))).map (fun k => l.getD k 0)) := by
  induction ks with
  | nil => intro acc; simp [intsL]
  | cons k ks ih =>
    intro acc
    rw [List.map_cons, List.foldl_cons, ih]
    have e : Gs l acc ((0 : Int) + (k : Int)) = if (l.drop k).take 2 = [13, 10] then acc else acc ++ [((l.getD k 0).toNat : Int)] := by
      unfold Gs; simp
    rw [e]
    by_cases q : (l.drop k).take 2 = [13, 10]
    · rw [if_pos q, List.filter_cons, if_neg (by simp [q])]
    · rw [if_neg q, List.filter_cons, if_pos (by simpa using q), List.map_cons]
      simp [intsL]
theorem Gs_all (l : List UInt8) : (rangeKs 0 l.length).foldl (Gs l) [] = intsL (short l) := by
  rw [rangeKs, Gs_fold, List.nil_append, short_range]
section
variable {prog : Program} {w : World} {A : Around} {h₀ : Heap} {L : Addr} {m : PySem.Str → Option Value} {env : Env} {ct elt : PySem.Expr} {x : PySem.Str} {scope : Scope} {cl : List (PySem.Str × Addr)} {news : List (Addr × Obj)}
theorem short_src {Fin : Shared → List Value → List (Addr × Obj) → Prop} {r : Addr} {l : List UInt8} {t u v : Tok} {s₁ : Shared} (hh : A.handled = none) (F : Fr h₀ L s₁.heap m) (N : News h₀ L s₁.heap news)
    (hr : IsRange s₁.heap r 0 ((l.toArray.size : Nat) : Int) 1 t u v) (hl : l.length ≤ 1000)
    (turn : ∀ g k t I oI C oC D m₂ ys acc h tk (E' : Value → Shared → Prop), 0 ≤ k → k < ((l.length : Nat) : Int) → IntsAre ys acc → LCg.NsObj oC m₂ → m₂ x = some (.int k t) → Fr h₀ L h m → News h₀ L h ((I, oI) :: (C, oC) :: (D, LCg.lst ys) :: news) → LCg.Off3 I C D news → ((@Ne Nat I C) ∧ (@Ne Nat I D) ∧ (@Ne Nat C D)) →
      wpAny (model prog w) A (isTrue ct (compEnvC scope cl C env) (eval ct (compEnvC scope cl C env))) (fun b s' => if b = true then wpAny (model prog w) A (eval elt (compEnvC scope cl C env)) (LCg.CompEnd h₀ L m { s₁ with heap := h, toks := tk } I oI C oC D (LCg.lst ys) (fun _ => True) (fun y news' => KCiEl news acc (Gs l acc k) y news')) E' s'
        else LCg.CompEnd h₀ L m { s₁ with heap := h, toks := tk } I oI C oC D (LCg.lst ys) (fun _ => True) (fun _ news' => KCiNo news acc (Gs l acc k) news') Value.none s') E' { { s₁ with heap := g } with heap := h, toks := tk })
    (fin : ∀ g ys, IntsAre ys (intsL (short l)) → ys.length ≤ 1000 → Fin { s₁ with heap := g } ys news) :
    LCt.CompSrcT prog w A h₀ L m env ct elt x scope cl Fin (.ref r) s₁ := by
  have hb : Builtin.Range.rangeSize 0 ((l.toArray.size : Nat) : Int) 1 = ((l.length : Nat) : Int) := by
    rw [rangeSize_nat]; simp
  refine LCt.CompSrcT.range hh F N hr (small_one (by omega) (by simp <;> omega) (by simp <;> omega) (by simp <;> omega)) hb (by rw [PySem.sizeLine_eq]; omega) fun g => ?_
  refine kci_range (Gs l) (fun k t I oI C oC D m₂ ys acc h tk E' h1 h2 hy hC hx F N off ne _ => turn g k t I oI C oC D m₂ ys acc h tk E' h1 (by simpa using h2) hy hC hx F N off ne) ?_ (Gs_grows l)
  intro ys hy hle
  rw [Gs_all] at hy
  exact fin g ys hy (by omega)
theorem made_octets {E : Value → Shared → Prop} {s : Shared} {Q : Value → Shared → Prop} {D : Addr} {ys : List Value} {n : Nat} {l : List UInt8} (F : Fr h₀ L s.heap m) (N : News h₀ L s.heap news) (hm : (D, ({ cls := .type "list", data := .seq ys.toArray n } : Obj)) ∈ news) (hi : IntsAre ys (intsL l)) (hh : A.handled = none) (hz : l.length ≤ 16777216)
    (h : ∀ h' t' k, Fr h₀ L h' m → News h₀ L h' news → Q (.bytes l.toArray t') { s with heap := h', toks := k }) : wpAny (model prog w) A (call (.type "bytes") [.ref D]) Q E s := by
  have hl : s.heap.IsList D ys.toArray := ⟨_, (N _ hm).1, rfl, _, rfl⟩
  refine call_bytes_ints hl hi (intsL_range l) (by rw [hi.length, sizeLine_eq, intsL, List.length_map]; exact hz) hh fun h' t' k hk => ?_
  have e : byteArr (intsL l) = l.toArray := by rw [byteArr, intsL_back]
  rw [e]
  exact h h' t' k (F.keeps hk) (fun q hq => ⟨hk _ _ (N q hq).1, (N q hq).2⟩)
theorem slice_pair {E : Value → Shared → Prop} {s : Shared} {Q : Value → Shared → Prop} {value slice : PySem.Expr} {l : List UInt8} {t u1 u2 : Tok} {k k2 : Int} (hF : Fr h₀ L s.heap m) (hN : News h₀ L s.heap news) (h0 : 0 ≤ k) (h1 : k < ((l.length : Nat) : Int)) (hl : l.length ≤ 16777216) (e2 : k2 = k + 2)
    (h : ∀ h' t' k', Fr h₀ L h' m → News h₀ L h' news → Q (.bytes ((l.drop k.toNat).take 2).toArray t') { s with heap := h', toks := k' })
    (hs : subscripted slice false (.bytes l.toArray t) (.ref s.heap.objs.size) = operate [.ref s.heap.objs.size, .bytes l.toArray t] (getItem (.bytes l.toArray t) (.ref s.heap.objs.size)) := by with_unfolding_all rfl)
    (ht : ∀ r, letTemporaryGo value (.bytes l.toArray t) r = pure () := by intro _; with_unfolding_all rfl) :
    wpAny (model prog w) A (subscriptTail value slice (.bytes l.toArray t) (.ref s.heap.objs.size)) Q E { s with heap := s.heap.push { cls := .type "slice", data := .fields #[.int k u1, .int k2 u2, .none] } } := by
  subst e2
  refine slice_any hF hN (.int k u1) (.int (k + 2) u2) (r := ((l.drop k.toNat).take 2).toArray) ?_ (by simp; omega) h hs ht
  obtain ⟨n, rfl⟩ := Int.eq_ofNat_of_zero_le h0
  have := picked_two l.toArray n (by simp; omega)
  simpa using this
theorem short_yes {I C D : Addr} {oI oC oD : Obj} {s₁ : Shared} {h' : Heap} {tk : Nat} {all : List (Addr × Obj)} {l : List UInt8} {k : Int} {acc : List Int} {t : Tok} (F : Fr h₀ L h' m) (N : News h₀ L h' all) (sub : ∀ p ∈ (I, oI) :: (C, oC) :: (D, oD) :: news, p ∈ all) (off : LCg.Off3 I C D news)
    (e : (((l.drop k.toNat).take 2).toArray.toList != [13, 10].toArray.toList) = true) :
    LCg.CompEnd h₀ L m s₁ I oI C oC D oD (fun _ => True) (fun y news' => KCiEl news acc (Gs l acc k) y news') (.int ((l.getD k.toNat 0).toNat : Int) t) { s₁ with heap := h', toks := tk } := by
  refine LCg.CompEnd.intro F N news sub off trivial (kci_el ?_ rfl rfl)
  unfold Gs
  rw [if_neg]
  simpa using e
theorem short_no {I C D : Addr} {oI oC oD : Obj} {s₁ : Shared} {h' : Heap} {tk : Nat} {all : List (Addr × Obj)} {l : List UInt8} {k : Int} {acc : List Int} {v : Value} (F : Fr h₀ L h' m) (N : News h₀ L h' all) (sub : ∀ p ∈ (I, oI) :: (C, oC) :: (D, oD) :: news, p ∈ all) (off : LCg.Off3 I C D news)
    (e : (((l.drop k.toNat).take 2).toArray.toList != [13, 10].toArray.toList) = false) :
    LCg.CompEnd h₀ L m s₁ I oI C oC D oD (fun _ => True) (fun _ news' => KCiNo news acc (Gs l acc k) news') v { s₁ with heap := h', toks := tk } := by
  refine LCg.CompEnd.intro F N news sub off trivial (kci_no ?_ rfl)
  unfold Gs
  rw [if_pos]
  simpa using e
end
end
section
section
variable {w : World} {p : Program} {loose : List Str} {mean : ExcName → Option Value} {mg mb : Str → Option Value} {dp un : Nat} {gd : Option (List Code)} {cn : Str} {cs : Scope} {a : Addr} {ccd : Value} {cl : List (Str × Addr)} {outer : List Env} {A₀ : Around} {base h₀ : Heap} {L d : Addr} {m : Str → Option Value} {s : Shared} {Q E : Value → Shared → Prop} {news : List (Addr × Obj)} {t t1 t2 t3 t4 : Tok} {v vt ve vl : Value} {r core : Str} {auto l : List UInt8}
theorem c_short_law (B : Below A₀ base outer h₀) (F : Fr h₀ L s.heap m) (X : (Mine.hd.heap_39 w.params).In h₀) (N : News h₀ L s.heap news) (T : Top p loose mean mg mb h₀) (hk : cs.kind = .function)
    (hd : dp + 3 < recursionLimit) (hu : un + 60 < cLine) (hl : l.length ≤ 1000) (hret : ∀ h' tk' t', Fr h₀ L h' m → News h₀ L h' news → Q (.bytes (short l).toArray t') { s with heap := h', toks := tk' }) :
    wpAny (model PySem.Challenge.rw_iy0006_01.row.prog w) (ktrTop dp un gd cn cs L a ccd cl outer) (call (.ref 166) [.bytes l.toArray t]) Q E s := by
  w_top off
  k_with_none
  k_with "getMethod bytes" => (k_here; (first | (with_reducible refine m_find ?_) | (with_reducible refine m_replace ?_) | (with_reducible refine m_split ?_) | (with_reducible refine m_join ?_) | (with_reducible refine m_endswith ?_)))
  k_with "compareOp In bytes bytes" => (k_here; (with_reducible show wpAny _ _ (compareOp CmpOp.In (Value.bytes _ _) (Value.bytes _ _)) _ _ _); k_dflt (refine' in_bytes (by rfl) (by k_asm) (by k_asm) (by first | exact in_cl _ | exact in_one _ _) ?_); intro h' tk' F' N')
  k_with "compareOp NotIn bytes bytes" => (k_here; (with_reducible show wpAny _ _ (compareOp CmpOp.NotIn (Value.bytes _ _) (Value.bytes _ _)) _ _ _); k_dflt (refine' notin_bytes (by rfl) (by k_asm) (by k_asm) (by first | exact in_cl _ | exact in_one _ _) ?_); intro h' tk' F' N')
  k_with "call builtin:bytes.replace" => (k_here; k_dflt (refine replace_crlf (by omega) ?_); intro t' k')
  k_with "subscriptTail" => (k_here; (first
      | ((with_reducible show wpAny _ _ (subscriptTail _ (Expr.Slice _ _ none _) (Value.bytes _ _) (Value.ref _)) _ _ _); (with_reducible rename Fr _ _ _ _ => F'); (with_reducible rename News _ _ _ _ => N'); k_dflt (refine' slice_pair (s := ⟨_, _, _, _, _⟩) F' N' (by assumption) (by assumption) (by omega) (by rfl) ?_); intro h' t' k' F' N')
      | ((with_reducible show wpAny _ _ (subscriptTail _ _ (Value.bytes _ _) (Value.int _ _)) _ _ _); k_dflt (refine bytes_item_K (by omega) (by assumption) (by assumption) rfl ?_))))
  k_with "m_enter" => (refine' code_def (by k_asm) (by k_asm) (by k_asm) (by k_asm) (by k_asm) (by exact rfl) (by exact rfl) (by assumption) (by k_is) (by k_is) (by ktr_room) (by first | exact BindsTo.of_eq rfl | exact binds_K (by k_in) rfl (by k_is) rfl rfl rfl) (by exact locs rfl) ?_ (by exact rfl) (by exact rfl) (by exact rfl) (by decide); k_whole; intro g' L' h' FG' F' N' B' X' T'; (try dsimp only); (try k_lift B'); (try k_fold))
  k_with "m_enterC" => (refine' code_defC (by k_asm) (by k_asm) (by k_asm) (by k_asm) (by k_asm) (by exact rfl) (by exact rfl) (by assumption) (by k_is) (by k_is) (by k_room) (by exact BindsTo.of_eq rfl) (by exact rfl) (by decide +kernel) ?_ (by exact rfl) (by exact rfl) (by exact rfl); k_whole; intro g' L' h' tk' cells' FG' F' N' Y' B' X' T' l1; (try k_lt l1); k_cells Y'; (try simp only [List.cons_append, List.nil_append] at N'); (try dsimp only); (try k_lift B'); (try k_fold))
  k_with "call builtin:len" => (k_here; (with_reducible show wpAny _ _ (call (Value.builtin "len") [Value.bytes _ _]) _ _ _); k_dflt (refine len_bytes (by simp; omega) ?_))
  k_with "CompSrcT" => (k_here; k_dflt (refine' short_src (by rfl) (by k_asm) (by k_asm) (by assumption) (by assumption) (fun g' k' t' I' oI' C' oC' D' m' ys' acc' h' tk' E' hlo' hhi' hI' hC' hx' F' N' off' ne' => ?_) (fun g' ys' hI' hle' => ?_)); (all_goals (try (simp only [LCg.Off3, and_true] at off'))))
  k_with "call type:bytes" => (k_here; (with_reducible show wpAny _ _ (call (Value.type "bytes") [Value.ref _]) _ _ _); k_dflt (refine' made_octets (by k_asm) (by k_asm) (by k_mem) (by assumption) (by rfl) (by exact Nat.le_trans (short_len _) (by omega)) ?_); intro h' t' k' F' N')
  k_with "CompEnd" => (k_here; k_dflt (first
      | refine short_yes (by assumption) (by assumption) (fun _ hp => hp) (by first | assumption | (simp only [LCg.Off3, and_true]; first | done | assumption)) (by assumption)
      | refine short_no (by assumption) (by assumption) (fun _ hp => hp) (by first | assumption | (simp only [LCg.Off3, and_true]; first | done | assumption)) (by assumption)))
  (revert X; k_fill; intro X)
  refine wpAny_call ?_
  k_dflt walk_at "m_enterC"
  k_steps
  all_goals (rename News _ _ _ _ => kN; exact hret _ _ _ (by k_asm) (fun p hp => kN p (.tail _ (.tail _ hp))))
end
end
section
def putsTo (l : List UInt8) (i : Nat) : List UInt8 := (List.range i).flatMap (putAt l)
theorem putsTo_step (l : List UInt8) (i : Nat) : putsTo l (i + 1) = putsTo l i ++ putAt l i := by
  unfold putsTo
  rw [List.range_succ, List.flatMap_append]; simp
theorem putsTo_len (l : List UInt8) (i : Nat) : (putsTo l i).length ≤ 2 * i := putAt_len l i
theorem putsTo_all (l : List UInt8) : putsTo l l.length = long l := putAt_eq l
theorem puts_len {l : List UInt8} {i : Nat} {us : List Value} (h : IntsAre us (intsL (putsTo l i))) : us.length ≤ 2 * i := by
  rw [h.length, intsL, List.length_map]; exact putsTo_len l i
def Agree1 (x : PySem.Str) (m m' : PySem.Str → Option Value) : Prop := ∀ z, z ≠ x → m z = m' z
theorem agree1_mk {x : PySem.Str} {v : Option Value} {m : PySem.Str → Option Value} : Agree1 x (fun y => if y = x then v else m y) m := fun z hz => if_neg hz
/-- a turn's end -/
def EndLong (h₀ : Heap) (L : Addr) (m : PySem.Str → Option Value) (x : PySem.Str) (c : Addr) (rest : List (Addr × Obj)) (target : List UInt8) (s : Shared) (f : Flow) (s₂ : Shared) : Prop :=
  f = .next ∧ ∃ h' tk' m₂ us k, s₂ = { s with heap := h', toks := tk' } ∧ Fr h₀ L h' m₂ ∧ News h₀ L h' ((c, listOf us.toArray k) :: rest) ∧ IntsAre us (intsL target) ∧ Agree1 x m₂ m
theorem long_one {h₀ : Heap} {L : Addr} {m m₂ : PySem.Str → Option Value} {x : PySem.Str} {c : Addr} {rest : List (Addr × Obj)} {l : List UInt8} {i k : Nat} {s : Shared} {h' : Heap} {tk' : Nat} {us : List Value} {t : Tok}
    (F : Fr h₀ L h' m₂) (N : News h₀ L h' ((c, listOf (us.toArray.push (.int ((l.getD i 0).toNat : Int) t)) k) :: rest)) (ha : Agree1 x m₂ m) (hu : IntsAre us (intsL (putsTo l i))) (hc : ¬ (l.getD i 0 = 10 ∧ (i = 0 ∨ l.getD (i - 1) 0 ≠ 13))) :
    EndLong h₀ L m x c rest (putsTo l (i + 1)) s .next { s with heap := h', toks := tk' } := by
  rw [List.push_toArray] at N
  refine ⟨rfl, h', tk', m₂, _, _, rfl, F, N, ?_, ha⟩
  rw [putsTo_step, putAt, if_neg hc, intsL_append]
  exact IntsAre.append hu (.cons _ t .nil)
theorem long_two {h₀ : Heap} {L : Addr} {m m₂ : PySem.Str → Option Value} {x : PySem.Str} {c : Addr} {rest : List (Addr × Obj)} {l : List UInt8} {i k : Nat} {s : Shared} {h' : Heap} {tk' : Nat} {us : List Value} {t t2 : Tok}
    (F : Fr h₀ L h' m₂) (N : News h₀ L h' ((c, listOf ((us.toArray.push (.int 13 t)).push (.int ((l.getD i 0).toNat : Int) t2)) k) :: rest)) (ha : Agree1 x m₂ m) (hu : IntsAre us (intsL (putsTo l i))) (hc : l.getD i 0 = 10 ∧ (i = 0 ∨ l.getD (i - 1) 0 ≠ 13)) :
    EndLong h₀ L m x c rest (putsTo l (i + 1)) s .next { s with heap := h', toks := tk' } := by
  rw [List.push_toArray, List.push_toArray] at N
  refine ⟨rfl, h', tk', m₂, _, _, rfl, F, N, ?_, ha⟩
  rw [putsTo_step, putAt, if_pos hc, intsL_append]
  have := IntsAre.append (IntsAre.append hu (.cons 13 t .nil)) (.cons ((l.getD i 0).toNat : Int) t2 .nil)
  simpa [intsL] using this
section
variable {prog : Program} {w : World} {A : Around} {E : Value → Shared → Prop} {s : Shared} {env : Env} {h₀ : Heap} {m : PySem.Str → Option Value} {news : List (Addr × Obj)} {c r : Addr} {l : List UInt8} {n0 : Nat} {Q : Flow → Shared → Prop} {body : List Stmt} {x : PySem.Str} {t u v : Tok}
theorem for_long (hh : A.handled = none) (F : Fr h₀ env.locals s.heap m) (N : News h₀ env.locals s.heap ((c, listOf (([] : List Value).toArray) n0) :: news)) (hlt : ∀ p ∈ news, p.1 ≠ c) (hr : IsRange s.heap r 0 ((l.toArray.size : Nat) : Int) 1 t u v) (hl : l.length ≤ 1000)
    (turn : ∀ (i : Nat) ti us k h tk own, i < l.length → IntsAre us (intsL (putsTo l i)) → (∀ q ∈ news ++ own, q.1 ≠ c) →
      Fr h₀ env.locals h (fun y => if y = x then some (.int (i : Int) ti) else m y) → News h₀ env.locals h ((c, listOf us.toArray k) :: (news ++ own)) →
      wpAny (model prog w) A (execs body env) (EndLong h₀ env.locals m x c (news ++ own) (putsTo l (i + 1)) s) E { s with heap := h, toks := tk })
    (done : ∀ h' tk us k z, IntsAre us (intsL (long l)) → Fr h₀ env.locals h' (fun y => if y = x then z else m y) → News h₀ env.locals h' ((c, listOf us.toArray k) :: news) → Q .next { s with heap := h', toks := tk }) :
    wpAny (model prog w) A (pyIter (.ref r)) (fun it s₂ => LoopAtV prog w A h₀ env x body Q E it s₂) E s := by
  have hn : Builtin.Range.rangeSize 0 ((l.toArray.size : Nat) : Int) 1 = ((l.length : Nat) : Int) := by rw [rangeSize_nat]; simp
  refine wpAny_pyIter_range hr (small_one (by omega) (by simp <;> omega) (by simp <;> omega) (by simp <;> omega)) ?_
  have W : Walks prog w A s.heap.objs.size [s.heap.objs.size] [s.heap.objs.size] l.length (fun i v => i < l.length ∧ ∃ t, v = .int ((0 : Int) + i * 1) t)
      (fun i h => IsRangeIter h s.heap.objs.size ((0 : Int) + (i : Nat) * 1) (((l.length : Nat) : Int) - (i : Nat)) 1) := (Walks.range hh _ 0 1 l.length).bound
  refine loop_invN (fun i m' nx => ∃ us k, IntsAre us (intsL (putsTo l i)) ∧ Agree1 x m' m ∧ nx = (c, listOf us.toArray k) :: news) W ?_ ?_ ?_ ?_ (by show IsRangeIter _ _ _ _ _; rw [hn]; simpa using Heap.get?_push_size _ rfl) (F.push _) (fun p hp => ⟨Heap.get?_push_of_some _ (N p hp).1, (N p hp).2⟩) ⟨[], n0, by simpa [putsTo, intsL] using IntsAre.nil, fun _ _ => rfl, rfl⟩ ?_ ?_
  · intro hm
    exact absurd F.ns.lt ((List.mem_singleton.mp hm) ▸ Nat.lt_irrefl _)
  · intro b hb
    rw [List.mem_singleton.mp hb]
    exact next_is_new F
  · intro p hp hI
    exact absurd (Heap.lt_size (N p hp).1) ((List.mem_singleton.mp hI) ▸ Nat.lt_irrefl _)
  · intro p hp hI
    exact absurd (Heap.lt_size (N p hp).1) ((List.mem_singleton.mp hI) ▸ Nat.lt_irrefl _)
  · rintro i v m₁ nx h tk own hi ⟨_, ti, rfl⟩ _ hoff ⟨us, k, hus, hag, rfl⟩ F₁ N₁
    have e1 : (0 : Int) + (i : Int) * 1 = (i : Int) := by omega
    rw [e1] at F₁
    have em : (fun y => if y = x then some (Value.int (i : Int) ti) else m₁ y) = (fun y => if y = x then some (.int (i : Int) ti) else m y) := by
      funext y
      by_cases h1 : y = x
      · rw [if_pos h1, if_pos h1]
      · rw [if_neg h1, if_neg h1]; exact hag y h1
    rw [em] at F₁
    have hof : ∀ q ∈ news ++ own, q.1 ≠ c := by
      intro q hq
      rcases List.mem_append.mp hq with hq | hq
      · exact hlt q hq
      · exact hoff.ne (by simp) q hq
    refine wpAny_mono (turn i ti us k h tk own hi hus hof F₁ N₁) (fun f s₂ p => ?_) fun _ _ e => e
    obtain ⟨rfl, h2, tk2, m₂, us', k', e, F₃, N₃, hus', hag'⟩ := p
    refine ⟨h2, tk2, m₂, _, (c, listOf us'.toArray k') :: news, e, F₃, N₃, ?_, ?_, rfl, us', k', hus', hag', rfl⟩
    · intro q hq
      rcases List.mem_cons.mp hq with rfl | hq
      · exact .head _
      · exact .tail _ (List.mem_append_left _ hq)
    · intro q hq
      exact .tail _ (List.mem_append_right _ hq)
  · rintro m₁ nx h tk ⟨us, k, hus, hag, rfl⟩ F₁ N₁
    rw [putsTo_all] at hus
    have em : m₁ = (fun y => if y = x then m₁ x else m y) := by
      funext y
      by_cases h1 : y = x
      · rw [if_pos h1, h1]
      · rw [if_neg h1]; exact hag y h1
    rw [em] at F₁
    exact done h tk us k _ hus F₁ N₁
end
end
section
section
variable {w : World} {p : Program} {loose : List Str} {mean : ExcName → Option Value} {mg mb : Str → Option Value} {dp un : Nat} {gd : Option (List Code)} {cn : Str} {cs : Scope} {a : Addr} {ccd : Value} {cl : List (Str × Addr)} {outer : List Env} {A₀ : Around} {base h₀ : Heap} {L d : Addr} {m : Str → Option Value} {s : Shared} {Q E : Value → Shared → Prop} {news : List (Addr × Obj)} {t t1 t2 t3 t4 : Tok} {v vt ve vl : Value} {r core : Str} {auto l : List UInt8}
theorem byte_of {c : UInt8} {n : Nat} (hn : n < 256) (h : ((c.toNat : Nat) : Int) = (n : Int)) : c = UInt8.ofNat n := by
  have h2 : c.toNat = n := by omega
  rw [← h2]; simp
theorem lq1 {i : Nat} (h : ((l.getD ((i : Nat) : Int).toNat 0).toNat : Int) = 10) (h0 : ((i : Nat) : Int) = 0) : l.getD i 0 = 10 ∧ (i = 0 ∨ l.getD (i - 1) 0 ≠ 13) :=
  ⟨byte_of (n := 10) (by decide) (by simpa using h), .inl (by omega)⟩
theorem lq2 {i : Nat} (h : ((l.getD ((i : Nat) : Int).toNat 0).toNat : Int) = 10) (h0 : ((i : Nat) : Int) ≠ 0) (h2 : ((l.getD (((i : Nat) : Int) - 1).toNat 0).toNat : Int) ≠ 13) : l.getD i 0 = 10 ∧ (i = 0 ∨ l.getD (i - 1) 0 ≠ 13) := by
  refine ⟨byte_of (n := 10) (by decide) (by simpa using h), .inr fun e => h2 ?_⟩
  have : (((i : Nat) : Int) - 1).toNat = i - 1 := by omega
  rw [this, e]; rfl
theorem lq3 {i : Nat} (h0 : ((i : Nat) : Int) ≠ 0) (h2 : ((l.getD (((i : Nat) : Int) - 1).toNat 0).toNat : Int) = 13) : ¬ (l.getD i 0 = 10 ∧ (i = 0 ∨ l.getD (i - 1) 0 ≠ 13)) := by
  rintro ⟨_, h | h⟩
  · omega
  · have e : (((i : Nat) : Int) - 1).toNat = i - 1 := by omega
    rw [e] at h2
    exact h (byte_of (n := 13) (by decide) h2)
theorem lq4 {i : Nat} (h : ((l.getD ((i : Nat) : Int).toNat 0).toNat : Int) ≠ 10) : ¬ (l.getD i 0 = 10 ∧ (i = 0 ∨ l.getD (i - 1) 0 ≠ 13)) := by
  rintro ⟨e, _⟩
  apply h
  have : ((i : Nat) : Int).toNat = i := by omega
  rw [this, e]; rfl
theorem c_long_law (B : Below A₀ base outer h₀) (F : Fr h₀ L s.heap m) (X : (Mine.hd.heap_39 w.params).In h₀) (N : News h₀ L s.heap news) (T : Top p loose mean mg mb h₀) (hk : cs.kind = .function)
    (hd : dp + 3 < recursionLimit) (hu : un + 60 < cLine) (hl : l.length ≤ 1000) (hret : ∀ h' tk' t', Fr h₀ L h' m → News h₀ L h' news → Q (.bytes (long l).toArray t') { s with heap := h', toks := tk' }) :
    wpAny (model PySem.Challenge.rw_iy0006_01.row.prog w) (ktrTop dp un gd cn cs L a ccd cl outer) (call (.ref 173) [.bytes l.toArray t]) Q E s := by
  w_top off
  k_with_none
  k_with "getMethod bytes" => (k_here; (first | (with_reducible refine m_find ?_) | (with_reducible refine m_replace ?_) | (with_reducible refine m_split ?_) | (with_reducible refine m_join ?_) | (with_reducible refine m_endswith ?_)))
  k_with "compareOp In bytes bytes" => (k_here; (with_reducible show wpAny _ _ (compareOp CmpOp.In (Value.bytes _ _) (Value.bytes _ _)) _ _ _); k_dflt (refine' in_bytes (by rfl) (by k_asm) (by k_asm) (by first | exact in_cl _ | exact in_one _ _) ?_); intro h' tk' F' N')
  k_with "compareOp NotIn bytes bytes" => (k_here; (with_reducible show wpAny _ _ (compareOp CmpOp.NotIn (Value.bytes _ _) (Value.bytes _ _)) _ _ _); k_dflt (refine' notin_bytes (by rfl) (by k_asm) (by k_asm) (by first | exact in_cl _ | exact in_one _ _) ?_); intro h' tk' F' N')
  k_with "call builtin:bytes.replace" => (k_here; k_dflt (refine replace_crlf (by omega) ?_); intro t' k')
  k_with "subscriptTail" => (k_here; (with_reducible show wpAny _ _ (subscriptTail _ (Expr.Slice _ _ none _) (Value.bytes _ _) (Value.ref _)) _ _ _); (with_reducible rename Fr _ _ _ _ => F'); (with_reducible rename News _ _ _ _ => N'); k_dflt (refine' slice_any (s := ⟨_, _, _, _, _⟩) F' N' (by constructor) (by constructor) (by first | exact picked_up _ 8000 | exact picked_but _ | exact picked_two _ _ (by simp; omega)) (by simp; omega) ?_ ); intro h' t' k' F' N')
  k_with "m_enter" => (refine' code_def (by k_asm) (by k_asm) (by k_asm) (by k_asm) (by k_asm) (by exact rfl) (by exact rfl) (by assumption) (by k_is) (by k_is) (by ktr_room) (by first | exact BindsTo.of_eq rfl | exact binds_K (by k_in) rfl (by k_is) rfl rfl rfl) (by exact locs rfl) ?_ (by exact rfl) (by exact rfl) (by exact rfl) (by decide); k_whole; intro g' L' h' FG' F' N' B' X' T'; (try dsimp only); (try k_lift B'); (try k_fold))
  k_with "call builtin:len" => (k_here; (with_reducible show wpAny _ _ (call (Value.builtin "len") [Value.bytes _ _]) _ _ _); k_dflt (refine len_bytes (by simp; omega) ?_))
  k_with "call type:bytes" => (k_here; (with_reducible show wpAny _ _ (call (Value.type "bytes") [Value.ref _]) _ _ _); k_dflt (refine' made_octets (by k_asm) (by k_asm) (by k_mem) (by assumption) (by rfl) (by exact Nat.le_trans (long_len _) (by omega)) ?_); intro h' t' k' F' N')
  k_with "subscriptTail" => (k_here; (with_reducible show wpAny _ _ (subscriptTail _ _ (Value.bytes _ _) (Value.int _ _)) _ _ _); k_dflt (refine bytes_item_K (by omega) (by omega) (by omega) rfl ?_))
  k_with "call builtin:list.append" => (k_here; (with_reducible show wpAny _ _ (call (Value.builtin _) [Value.ref _, _]) _ _ _); (rename ∀ q ∈ _, _ ≠ _ => hoff9); k_dflt (refine' append_K (by k_asm) (by k_asm) (Upd.head hoff9) ?_ (by (rw [sizeLine_eq]; (try simp only [Array.size_push, List.size_toArray]); omega)); k_whole); intro h' F' N')
  k_with "m_iter" => (k_here; (rename ∀ p ∈ _, _ < _ => hal); k_dflt (refine' for_long (by rfl) (by k_asm) (by k_asm) (by exact fun q hq => Nat.ne_of_lt (hal q hq)) (by assumption) (by assumption) ?_ ?_); (intro i ti us k h tk own hi hus hoff F' N'; (have hul9 := puts_len hus)); (rotate_left; intro h' tk us k u hus F' N'; rotate_right))
  (revert X; k_fill; intro X)
  refine wpAny_call ?_
  k_dflt walk_at "m_enter"
  k_steps
  all_goals (first
    | exact hret _ _ _ (by k_asm) (by k_asm)
    | ((rename News _ _ _ _ => kN); exact hret _ _ _ (by k_asm) (fun p hp => kN p (.tail _ hp)))
    | ((rename IntsAre _ (intsL (putsTo _ _)) => hw8); (first
      | exact long_two (by k_asm) (by k_asm) agree1_mk hw8 (by first | exact lq1 (by assumption) (by assumption) | exact lq2 (by assumption) (by assumption) (by assumption))
      | exact long_one (by k_asm) (by k_asm) agree1_mk hw8 (by first | exact lq3 (by assumption) (by assumption) | exact lq4 (by assumption)))))
end
end
section
section
variable {w : World} {p : Program} {loose : List Str} {mean : ExcName → Option Value} {mg mb : Str → Option Value} {dp un : Nat} {gd : Option (List Code)} {cn : Str} {cs : Scope} {a : Addr} {ccd : Value} {cl : List (Str × Addr)} {outer : List Env} {A₀ : Around} {base h₀ : Heap} {L : Addr} {m : Str → Option Value} {s : Shared} {Q E : Value → Shared → Prop} {news : List (Addr × Obj)} {sf : Array UInt8} {t t1 t2 t3 t4 : Tok} {ix : Value} {act : Str}
theorem c_filter_bin (B : Below A₀ base outer h₀) (F : Fr h₀ L s.heap m) (X : (Mine.hd.heap_39 w.params).In h₀) (N : News h₀ L s.heap news) (T : Top p loose mean mg mb h₀) (hk : cs.kind = .function)
    (hd : dp + 5 < recursionLimit) (hu : un + 60 < cLine) (hb : (act == Str.ofString "binary") = true)
    (hret : ∀ h' tk', Fr h₀ L h' m → News h₀ L h' news → Q .none { s with heap := h', toks := tk' }) :
    wpAny (model PySem.Challenge.rw_iy0006_01.row.prog w) (ktrTop dp un gd cn cs L a ccd cl outer) (call (.ref 73) [.str act t1, .bytes sf t3, ix]) Q E s := by
  w_top off
  k_with_none
  k_with "getMethod bytes" => (k_here; (first | (with_reducible refine m_find ?_) | (with_reducible refine m_replace ?_) | (with_reducible refine m_split ?_) | (with_reducible refine m_join ?_) | (with_reducible refine m_endswith ?_)))
  k_with "compareOp In bytes bytes" => (k_here; (with_reducible show wpAny _ _ (compareOp CmpOp.In (Value.bytes _ _) (Value.bytes _ _)) _ _ _); k_dflt (refine' in_bytes (by rfl) (by k_asm) (by k_asm) (by first | exact in_cl _ | exact in_one _ _) ?_); intro h' tk' F' N')
  k_with "compareOp NotIn bytes bytes" => (k_here; (with_reducible show wpAny _ _ (compareOp CmpOp.NotIn (Value.bytes _ _) (Value.bytes _ _)) _ _ _); k_dflt (refine' notin_bytes (by rfl) (by k_asm) (by k_asm) (by first | exact in_cl _ | exact in_one _ _) ?_); intro h' tk' F' N')
  k_with "call builtin:bytes.replace" => (k_here; k_dflt (refine replace_crlf (by omega) ?_); intro t' k')
  k_with "subscriptTail" => (k_here; (with_reducible show wpAny _ _ (subscriptTail _ (Expr.Slice _ _ none _) (Value.bytes _ _) (Value.ref _)) _ _ _); (with_reducible rename Fr _ _ _ _ => F'); (with_reducible rename News _ _ _ _ => N'); k_dflt (refine' slice_any (s := ⟨_, _, _, _, _⟩) F' N' (by constructor) (by constructor) (by first | exact picked_up _ 8000 | exact picked_but _ | exact picked_two _ _ (by simp; omega)) (by simp; omega) ?_ ); intro h' t' k' F' N')
  k_with "m_enter" => (refine' code_def (by k_asm) (by k_asm) (by k_asm) (by k_asm) (by k_asm) (by exact rfl) (by exact rfl) (by assumption) (by k_is) (by k_is) (by ktr_room) (by first | exact BindsTo.of_eq rfl | exact binds_K (by k_in) rfl (by k_is) rfl rfl rfl) (by exact locs rfl) ?_ (by exact rfl) (by exact rfl) (by exact rfl) (by decide); k_whole; intro g' L' h' FG' F' N' B' X' T'; (try dsimp only); (try k_lift B'); (try k_fold))
  k_with "compareOp Eq str str" => (k_here; (refine eq_strB (by first | assumption | exact rfl) ?_))
  (revert X; k_fill; intro X)
  refine wpAny_call ?_
  k_dflt walk_at "m_enter"
  k_steps
  all_goals exact hret _ _ (by k_asm) (by k_asm)
end
end
end
section
theorem noI_bytes_add : typeLookup (.type "bytes") (dunderI "add") = pure none := by rw [typeLookup_type, builtinLookup_eq_fast]; kernel_rfl
section
variable {prog : Program} {w : World} {A : Around} {E : Value → Shared → Prop} {s : Shared} {b c : List UInt8} {t u : Tok} {Q : Value → Shared → Prop}
theorem iadd_bytes (hsz : b.length + c.length ≤ 16777216) (h : ∀ t' k, Q (.bytes (b ++ c).toArray t') { s with toks := k }) : wpAny (model prog w) A (inplaceOp .Add (.bytes b.toArray t) (.bytes c.toArray u)) Q E s := by
  refine iconcat_gives (typeIs_bytes s b.toArray t) (typeIs_bytes s c.toArray u) noI_bytes_add KBy.noFill_bytes_add KBy.seq_bytes_add FB.slot_bytes_add FB.entry_bytes_add (FB.args_bytes_add_2 _ _) (KBy.gives_bytes_add (KBy.tooLong_not (by simpa using hsz))) ?_
  by_cases hb : b.toArray.isEmpty = true
  · rw [if_pos hb]
    have e : b = [] := by simpa using hb
    have h' := h u s.toks
    rw [e, List.nil_append] at h'
    exact h'
  · rw [if_neg hb]
    by_cases hc : c.toArray.isEmpty = true
    · rw [if_pos hc]
      have e : c = [] := by simpa using hc
      have h' := h t s.toks
      rw [e, List.append_nil] at h'
      exact h'
    · rw [if_neg hc]
      have e : b.toArray ++ c.toArray = (b ++ c).toArray := by simp
      rw [e]
      exact ⟨by simpa [sizeLine_eq] using hsz, h _ _⟩
theorem add_octets (hsz : b.length + c.length ≤ 16777216) (h : ∀ t' k, Q (.bytes (b ++ c).toArray t') { s with toks := k }) : wpAny (model prog w) A (binaryOp .Add (.bytes b.toArray t) (.bytes c.toArray u)) Q E s :=
  bytes_add_K (by simpa using hsz) rfl h
theorem item_at {h₀ : Heap} {L l : Addr} {news : List (Addr × Obj)} {value slice : PySem.Expr} {vs : List Value} {n : Nat} {k : Int} {P : Value → Prop} (N : News h₀ L s.heap news) (hm : (l, listOf vs.toArray n) ∈ news) (h0 : 0 ≤ k) (h1 : k < ((vs.length : Nat) : Int)) (hz : vs.length ≤ 1000) (hP : ∀ v ∈ vs, P v)
    (h : ∀ v, P v → Q v s) (hs : subscripted slice false (.ref l) (.int k u) = operate [.ref l, .int k u] (getItem (.ref l) (.int k u)) := by with_unfolding_all rfl) :
    wpAny (model prog w) A (subscriptTail value slice (.ref l) (.int k u)) Q E s := by
  have hlt : k.toNat < vs.length := by omega
  refine item_litK (v := vs[k.toNat]) ⟨_, (N _ hm).1, rfl, n, rfl⟩ h0 (by omega) (by simp [hlt]) (h _ (hP _ (by simp))) hs
end
/-- a turn's end -/
def EndBody (h₀ : Heap) (L : Addr) (m : PySem.Str → Option Value) (x y : PySem.Str) (B : Nat) (rest : List (Addr × Obj)) (s : Shared) (f : Flow) (s₂ : Shared) : Prop :=
  f = .next ∧ ∃ h' tk' m₂ l t, s₂ = { s with heap := h', toks := tk' } ∧ Fr h₀ L h' m₂ ∧ News h₀ L h' rest ∧ m₂ y = some (.bytes (List.toArray l) t) ∧ l.length ≤ B ∧ Agree2 x y m₂ m
theorem EndBody.intro {h₀ : Heap} {L : Addr} {m m₂ : PySem.Str → Option Value} {x y : PySem.Str} {rest nx : List (Addr × Obj)} {s : Shared} {h' : Heap} {tk' B : Nat} {l : List UInt8} {t : Tok}
    (F : Fr h₀ L h' m₂) (N : News h₀ L h' nx) (hn : ∀ p ∈ rest, p ∈ nx) (e : m₂ y = some (.bytes l.toArray t)) (hl : l.length ≤ B) (ha : Agree2 x y m₂ m) : EndBody h₀ L m x y B rest s .next { s with heap := h', toks := tk' } :=
  ⟨rfl, h', tk', m₂, l, t, rfl, F, fun p hp => N p (hn p hp), e, hl, ha⟩
section
variable {prog : Program} {w : World} {A : Around} {E : Value → Shared → Prop} {s : Shared} {env : Env} {h₀ : Heap} {m : PySem.Str → Option Value} {news : List (Addr × Obj)} {l : Addr} {vs : List Value} {ns : List Int} {nn : Nat} {Q : Flow → Shared → Prop} {body : List Stmt} {x y : PySem.Str} {t0 : Tok}
theorem for_body (hxy : y ≠ x) (hh : A.handled = none) (hl : (l, listOf vs.toArray nn) ∈ news) (hi : IntsAre vs ns) (F : Fr h₀ env.locals s.heap m) (N : News h₀ env.locals s.heap news) (h0 : m y = some (.bytes ([] : List UInt8).toArray t0))
    (turn : ∀ (i : Nat) n t b tb s₁ own, n ∈ ns → b.length ≤ 3 * i → i < vs.length → Fr h₀ env.locals s₁.heap (fun z => if z = x then some (.int n t) else if z = y then some (.bytes (List.toArray b) tb) else m z) → News h₀ env.locals s₁.heap (own ++ news) →
      wpAny (model prog w) A (execs body env) (EndBody h₀ env.locals m x y (3 * (i + 1)) (own ++ news) s₁) E s₁)
    (done : ∀ h' tk b tb u, b.length ≤ 3 * vs.length → Fr h₀ env.locals h' (fun z => if z = x then u else if z = y then some (.bytes (List.toArray b) tb) else m z) → News h₀ env.locals h' news → Q .next { s with heap := h', toks := tk }) :
    wpAny (model prog w) A (pyIter (.ref l)) (fun it s₂ => LoopAtU prog w A h₀ env x body Q E it s₂) E s := by
  have hol : s.heap.get? l = some (listOf vs.toArray nn) := (N _ hl).1
  have hls : s.heap.IsList l vs.toArray := ⟨_, hol, rfl, nn, rfl⟩
  have hne : l ≠ s.heap.objs.size := Nat.ne_of_lt (Heap.lt_size hol)
  refine wpAny_pyIter_list hls ?_
  have W' := Walks.list (prog := prog) (w := w) hh s.heap.objs.size l hne vs.toArray
  rw [List.size_toArray] at W'
  have em : ∀ (m' : PySem.Str → Option Value) (v : Value) (u : Option Value), m' y = some v → Agree2 x y m' m → (fun z => if z = x then u else m' z) = (fun z => if z = x then u else if z = y then some v else m z) := by
    intro m' v u h1 h2
    funext z
    by_cases hz : z = x
    · rw [if_pos hz, if_pos hz]
    · rw [if_neg hz, if_neg hz]
      by_cases hz2 : z = y
      · rw [if_pos hz2, hz2, h1]
      · rw [if_neg hz2, h2 z hz hz2]
  refine ⟨_, _, _, vs.length, _, _, m, news, (fun i m' nx => nx = news ∧ (∃ b tb, m' y = some (.bytes (List.toArray b) tb) ∧ b.length ≤ 3 * i) ∧ Agree2 x y m' m), rfl, W', ?_, ?_, ?_, ⟨⟨_, Heap.get?_push_size _ rfl, rfl, rfl⟩, hls.at fun o e => Heap.get?_push_of_some _ e⟩, F.push _, (fun p hp => ⟨Heap.get?_push_of_some _ (N p hp).1, (N p hp).2⟩), ⟨rfl, ⟨[], t0, h0, Nat.zero_le _⟩, fun _ _ _ => rfl⟩, ?_, ?_⟩
  · intro hm
    rcases List.mem_cons.mp hm with e | hm
    · exact absurd F.ns.lt (e ▸ Nat.lt_irrefl _)
    · exact (N _ hl).2.1 ((List.mem_singleton.mp hm).symm)
  · intro b hb
    rw [List.mem_singleton.mp hb]
    exact next_is_new F
  · intro p hp hI
    exact absurd (Heap.lt_size (N p hp).1) ((List.mem_singleton.mp hI) ▸ Nat.lt_irrefl _)
  · rintro i v m₁ news₁ s₁ own hin hP ⟨rfl, ⟨b, tb, hw, hb⟩, hag⟩ hoff hown hget hfp _ F₁ N₁
    have hP' : vs[i]? = some v := by simpa using hP
    obtain ⟨n, t, rfl, hn⟩ := IntsAre.at hi i v hP'
    rw [em m₁ _ _ hw hag] at F₁
    refine wpAny_mono (turn i n t b tb s₁ own (List.mem_of_getElem? hn) hb hin F₁ N₁) (fun f s₂ h => ?_) fun _ _ e => e
    obtain ⟨rfl, h2, tk2, m', b', tb', rfl, F₃, N₃, e1, hb', ha⟩ := h
    exact ⟨rfl, h2, tk2, m', news₁, rfl, F₃, N₃, hoff, rfl, ⟨b', tb', e1, hb'⟩, ha⟩
  · rintro h' tk m' news' F' N' _ ⟨rfl, ⟨b, tb, hw, hb⟩, hag⟩
    have e : m' = (fun z => if z = x then m' x else m' z) := by
      funext z
      by_cases hz : z = x
      · rw [if_pos hz, hz]
      · rw [if_neg hz]
    rw [e, em m' _ _ hw hag] at F'
    exact done h' tk b tb _ hb F' N'
end
end
section
theorem lead_len (k : Nat) : (lead k).length = k := by simp [lead]
theorem bin_find (m : Nat) (b : List UInt8) : isBin (lead m ++ b) = (decide (0 ≤ findInt b [0]) && decide ((m : Int) + findInt b [0] < 8000)) := by
  rw [bin_lead]
  unfold findInt
  cases h : firstAt [0] 0 b with
  | none => rfl
  | some z =>
    simp only
    rw [Bool.eq_iff_iff]
    simp only [decide_eq_true_eq, Bool.and_eq_true]
    omega
theorem rep_lead (n : Nat) : (List.replicate n ([120] : List UInt8)).flatten = lead n := by
  induction n with
  | zero => rfl
  | succ n ih => rw [List.replicate_succ, List.flatten_cons, ih]; rfl
/-- the five words that come out -/
theorem res5 (vt ve vl : Value) (core : PySem.Str) (auto : List UInt8) :
    resS vt ve vl core auto = PySem.Str.ofString "binary" ∨ resS vt ve vl core auto = PySem.Str.ofString "text-input" ∨ resS vt ve vl core auto = PySem.Str.ofString "text-crlf" ∨ resS vt ve vl core auto = PySem.Str.ofString "auto-input" ∨ resS vt ve vl core auto = PySem.Str.ofString "auto-crlf" := by
  unfold resS
  repeat' split
  all_goals simp
/-- a turn's end: one name has changed -/
def EndP (h₀ : Heap) (L : Addr) (m : PySem.Str → Option Value) (y : PySem.Str) (P : Value → Prop) (news : List (Addr × Obj)) (s : Shared) (f : Flow) (s₂ : Shared) : Prop :=
  f = .next ∧ ∃ h' tk' m₂ v, s₂ = { s with heap := h', toks := tk' } ∧ Fr h₀ L h' m₂ ∧ News h₀ L h' news ∧ m₂ y = some v ∧ P v ∧ Agree1 y m₂ m
theorem EndP.intro {h₀ : Heap} {L : Addr} {m m₂ : PySem.Str → Option Value} {y : PySem.Str} {P : Value → Prop} {news nx : List (Addr × Obj)} {s : Shared} {h' : Heap} {tk' : Nat} {v : Value}
    (F : Fr h₀ L h' m₂) (N : News h₀ L h' nx) (hn : ∀ p ∈ news, p ∈ nx) (e : m₂ y = some v) (hp : P v) (ha : Agree1 y m₂ m) : EndP h₀ L m y P news s .next { s with heap := h', toks := tk' } :=
  ⟨rfl, h', tk', m₂, v, rfl, F, fun p hp => N p (hn p hp), e, hp, ha⟩
section
variable {M : Model} {A : Around} {E : Value → Shared → Prop} {s : Shared} {h₀ : Heap} {L : Addr} {m : PySem.Str → Option Value} {news : List (Addr × Obj)} {Q : Flow → Shared → Prop} {x : Sem Flow} {y : PySem.Str}
theorem cut_name (P : Value → Prop) (h1 : wpAny M A x (EndP h₀ L m y P news s) E s)
    (h2 : ∀ v h' tk, P v → Fr h₀ L h' (fun z => if z = y then some v else m z) → News h₀ L h' news → Q .next { s with heap := h', toks := tk }) : wpAny M A x Q E s := by
  refine wpAny_mono h1 (fun f s₂ h => ?_) fun _ _ e => e
  obtain ⟨rfl, h', tk', m₂, v, rfl, F, N, e, hp, ha⟩ := h
  refine h2 v h' tk' hp ?_ N
  have em : (fun z => if z = y then some v else m z) = m₂ := by
    funext z
    by_cases hz : z = y
    · rw [if_pos hz, hz, e]
    · rw [if_neg hz, ha z hz]
  rw [em]; exact F
def isLead (k0 : Nat) (v : Value) : Prop := ∃ k t, v = .bytes (lead k).toArray t ∧ k ≤ k0
theorem lead_zero (t : Tok) : isLead 8001 (.bytes ([] : List UInt8).toArray t) := ⟨0, t, rfl, by decide⟩
theorem lead_some {n : Nat} {t : Tok} (h : n ≤ 8001) : isLead 8001 (.bytes (lead n).toArray t) := ⟨n, t, rfl, h⟩
theorem cut_lead (F : Fr h₀ L s.heap m) (N : News h₀ L s.heap news) (h1 : wpAny M A x (EndP h₀ L m (PySem.Str.ofString "lead") (isLead 8001) news s) E s)
    (h2 : ∀ k t h' tk, k ≤ 8001 → let m₂ : PySem.Str → Option Value := (fun z => if z = PySem.Str.ofString "lead" then some (.bytes (lead k).toArray t) else m z); let nx : List (Addr × Obj) := news; Fr h₀ L h' m₂ → News h₀ L h' nx → Q .next { s with heap := h', toks := tk }) : wpAny M A x Q E s := by
  refine cut_name _ h1 ?_
  rintro v h' tk ⟨k, t, rfl, hk⟩ F N
  exact h2 k t h' tk hk F N
theorem cut_binary {k : Nat} {b : List UInt8} {t1 t2 : Tok} (F : Fr h₀ L s.heap m) (N : News h₀ L s.heap news) (e1 : m (PySem.Str.ofString "lead") = some (.bytes (lead k).toArray t1)) (e2 : m (PySem.Str.ofString "body") = some (.bytes b.toArray t2))
    (h1 : wpAny M A x (EndP h₀ L m (PySem.Str.ofString "binary") (fun v => v = .bool (isBin (lead k ++ b))) news s) E s)
    (h2 : ∀ h' tk, let m₂ : PySem.Str → Option Value := (fun z => if z = PySem.Str.ofString "binary" then some (.bool (isBin (lead k ++ b))) else m z); let nx : List (Addr × Obj) := news; Fr h₀ L h' m₂ → News h₀ L h' nx → Q .next { s with heap := h', toks := tk }) : wpAny M A x Q E s := by
  refine cut_name _ h1 ?_
  rintro v h' tk rfl F N
  exact h2 h' tk F N
end
section
variable {prog : Program} {w : World} {A : Around} {E : Value → Shared → Prop} {s : Shared}
theorem mul_lead {n : Int} {t u : Tok} {Q : Value → Shared → Prop} (hlo : 0 ≤ n) (hn : n ≤ 8001) (h : ∀ t' k, Q (.bytes (lead n.toNat).toArray t') { s with toks := k }) :
    wpAny (model prog w) A (binaryOp .Mult (.bytes ([120] : List UInt8).toArray t) (.int n u)) Q E s := by
  refine bytes_mul_any (by simp) (by omega) (by omega) (by simp) fun t' k => ?_
  rw [rep_lead]
  exact h t' k
theorem ne_same {b c : List UInt8} {t u : Tok} {Q : Value → Shared → Prop} (e : b = c) (h : Q (.bool false) s) : wpAny (model prog w) A (compareOp .NotEq (.bytes b.toArray t) (.bytes c.toArray u)) Q E s := by
  subst e
  refine ne_bytes ?_
  simpa using h
theorem mul_lead' {q : Int} {t u : Tok} {Q : Value → Shared → Prop} (h : ∀ t' k n, n ≤ 8001 → Q (.bytes (lead n).toArray t') { s with toks := k }) :
    wpAny (model prog w) A (binaryOp .Mult (.bytes ([120] : List UInt8).toArray t) (.int (7990 + Int.fmod q 12) u)) Q E s := by
  have h1 := fmod_lo q (by decide : (0 : Int) < 12)
  have h2 := fmod_hi q (by decide : (0 : Int) < 12)
  exact mul_lead (by omega) (by omega) fun t' k => h t' k _ (by omega)
theorem find_zero {b : List UInt8} {t u : Tok} {Q : Value → Shared → Prop} (h : ∀ t' k, Q (.int (findInt b [0]) t') { s with toks := k }) : wpAny (model prog w) A (call (.builtin "bytes.find") [.bytes b.toArray t, .bytes ([0] : List UInt8).toArray u]) Q E s :=
  find_bytes (by simp) h
theorem len_lead {k : Nat} {t : Tok} {Q : Value → Shared → Prop} (hk : k ≤ 8001) (h : ∀ t' tk, Q (.int ((k : Nat) : Int) t') { s with toks := tk }) : wpAny (model prog w) A (call (.builtin "len") [.bytes (lead k).toArray t]) Q E s := by
  refine len_bytes (by simp [lead]; omega) ?_
  have e : (((lead k).toArray.size : Nat) : Int) = ((k : Nat) : Int) := by simp [lead]
  rw [e]
  exact h _ _
end
end
section
/-- a turn's end: the names that the turns store are free -/
def EndTurn (h₀ : Heap) (L : Addr) (m : PySem.Str → Option Value) (x : PySem.Str) (stored : List PySem.Str) (news : List (Addr × Obj)) (s : Shared) (f : Flow) (s₂ : Shared) : Prop :=
  f = .next ∧ ∃ h' tk' m₂, s₂ = { s with heap := h', toks := tk' } ∧ Fr h₀ L h' m₂ ∧ News h₀ L h' news ∧ ∀ z, z ≠ x → stored.contains z = false → m₂ z = m z
theorem EndTurn.intro {h₀ : Heap} {L : Addr} {m m₂ : PySem.Str → Option Value} {x : PySem.Str} {stored : List PySem.Str} {news nx : List (Addr × Obj)} {s : Shared} {h' : Heap} {tk' : Nat}
    (F : Fr h₀ L h' m₂) (N : News h₀ L h' nx) (hn : ∀ p ∈ news, p ∈ nx) (ha : ∀ z, z ≠ x → stored.contains z = false → m₂ z = m z) : EndTurn h₀ L m x stored news s .next { s with heap := h', toks := tk' } :=
  ⟨rfl, h', tk', m₂, rfl, F, fun p hp => N p (hn p hp), ha⟩
section
variable {prog : Program} {w : World} {A : Around} {E : Value → Shared → Prop} {s : Shared} {env : Env} {h₀ : Heap} {m : PySem.Str → Option Value} {news : List (Addr × Obj)} {r : Addr} {b : Int} {Q : Flow → Shared → Prop} {body : List Stmt} {x : PySem.Str} {t u v : Tok}
theorem for_turns (stored : List PySem.Str) (hh : A.handled = none) (F : Fr h₀ env.locals s.heap m) (N : News h₀ env.locals s.heap news) (hr : IsRange s.heap r 0 b 1 t u v) (h0 : 0 ≤ b) (hb : b ≤ 5)
    (turn : ∀ (i : Int) ti (z' : PySem.Str → Option Value) h tk own, 0 ≤ i → i < b →
      let m₂ : PySem.Str → Option Value := (fun y => if y = x then some (.int i ti) else if stored.contains y = true then z' y else m y); let nx : List (Addr × Obj) := own ++ news; Fr h₀ env.locals h m₂ → News h₀ env.locals h nx →
      wpAny (model prog w) A (execs body env) (EndTurn h₀ env.locals m x stored nx { s with heap := h, toks := tk }) E { s with heap := h, toks := tk })
    (done : ∀ h' tk u' (z' : PySem.Str → Option Value), Fr h₀ env.locals h' (fun y => if y = x then u' else if stored.contains y = true then z' y else m y) → News h₀ env.locals h' news → Q .next { s with heap := h', toks := tk }) :
    wpAny (model prog w) A (pyIter (.ref r)) (fun it s₂ => LoopAtV prog w A h₀ env x body Q E it s₂) E s := by
  have hn : Builtin.Range.rangeSize 0 b 1 = ((b.toNat : Nat) : Int) := by rw [rangeSize_nat]; simp
  refine wpAny_pyIter_range hr (small_one (by omega) (by omega) (by omega) (by omega)) ?_
  have W : Walks prog w A s.heap.objs.size [s.heap.objs.size] [s.heap.objs.size] b.toNat (fun i v => i < b.toNat ∧ ∃ t, v = .int ((0 : Int) + i * 1) t)
      (fun i h => IsRangeIter h s.heap.objs.size ((0 : Int) + (i : Nat) * 1) (((b.toNat : Nat) : Int) - (i : Nat)) 1) := (Walks.range hh _ 0 1 b.toNat).bound
  have em : ∀ (m' : PySem.Str → Option Value) (u : Option Value), (∀ z, z ≠ x → stored.contains z = false → m' z = m z) → (fun y => if y = x then u else m' y) = (fun y => if y = x then u else if stored.contains y = true then m' y else m y) := by
    intro m' u hag
    funext y
    by_cases h1 : y = x
    · rw [if_pos h1, if_pos h1]
    · rw [if_neg h1, if_neg h1]
      cases h2 : stored.contains y with
      | true => simp
      | false => simp only [Bool.false_eq_true, if_false]; exact hag y h1 h2
  refine loop_invN (fun i m' nx => nx = news ∧ ∀ z, z ≠ x → stored.contains z = false → m' z = m z) W ?_ ?_ ?_ ?_ (by show IsRangeIter _ _ _ _ _; rw [hn]; simpa using Heap.get?_push_size _ rfl) (F.push _) (fun p hp => ⟨Heap.get?_push_of_some _ (N p hp).1, (N p hp).2⟩) ⟨rfl, fun _ _ _ => rfl⟩ ?_ ?_
  · intro hm
    exact absurd F.ns.lt ((List.mem_singleton.mp hm) ▸ Nat.lt_irrefl _)
  · intro b hb
    rw [List.mem_singleton.mp hb]
    exact next_is_new F
  · intro p hp hI
    exact absurd (Heap.lt_size (N p hp).1) ((List.mem_singleton.mp hI) ▸ Nat.lt_irrefl _)
  · intro p hp hI
    exact absurd (Heap.lt_size (N p hp).1) ((List.mem_singleton.mp hI) ▸ Nat.lt_irrefl _)
  · rintro i v m₁ nx h tk own hi ⟨_, ti, rfl⟩ _ hoff ⟨rfl, hag⟩ F₁ N₁
    have e1 : (0 : Int) + (i : Int) * 1 = (i : Int) := by omega
    rw [e1, em m₁ _ hag] at F₁
    have N₂ : News h₀ env.locals h (own ++ nx) := fun p hp => N₁ p ((List.mem_append.mp hp).elim (fun h => List.mem_append.mpr (.inr h)) fun h => List.mem_append.mpr (.inl h))
    refine wpAny_mono (turn i ti m₁ h tk own (by omega) (by omega) F₁ N₂) (fun f s₂ p => ?_) fun _ _ e => e
    obtain ⟨rfl, h2, tk2, m₂, e, F₃, N₃, hag'⟩ := p
    exact ⟨h2, tk2, m₂, _, nx, e, F₃, N₃, fun q hq => List.mem_append_right _ hq, fun q hq => List.mem_append_left _ hq, rfl, rfl, hag'⟩
  · rintro m₁ nx h tk ⟨rfl, hag⟩ F₁ N₁
    have F₂ : Fr h₀ env.locals h (fun y => if y = x then m₁ x else m₁ y) := by
      have : (fun y => if y = x then m₁ x else m₁ y) = m₁ := by
        funext y
        by_cases h1 : y = x
        · rw [if_pos h1, h1]
        · rw [if_neg h1]
      rw [this]; exact F₁
    rw [em m₁ _ hag] at F₂
    exact done h tk _ m₁ F₂ N₁
end
section
variable {M : Model} {A : Around} {E : Value → Shared → Prop} {s : Shared} {h₀ : Heap} {L : Addr} {m : PySem.Str → Option Value} {news : List (Addr × Obj)} {Q : Flow → Shared → Prop} {x : Sem Flow}
def isInt (v : Value) : Prop := ∃ n t, v = .int n t
theorem isInt_mk (n : Int) (t : Tok) : isInt (.int n t) := ⟨n, t, rfl⟩
theorem cut_int (y : PySem.Str) (F : Fr h₀ L s.heap m) (N : News h₀ L s.heap news) (h1 : wpAny M A x (EndP h₀ L m y isInt news s) E s)
    (h2 : ∀ n t h' tk, let m₂ : PySem.Str → Option Value := (fun z => if z = y then some (.int n t) else m z); let nx : List (Addr × Obj) := news; Fr h₀ L h' m₂ → News h₀ L h' nx → Q .next { s with heap := h', toks := tk }) : wpAny M A x Q E s := by
  refine cut_name _ h1 ?_
  rintro v h' tk ⟨n, t, rfl⟩ F N
  exact h2 n t h' tk F N
end
end
section
section
variable {prog : Program} {w : World} {A : Around} {E : Value → Shared → Prop} {s : Shared} {u : Tok} {Q : Value → Shared → Prop}
theorem item_at3 {h₀ : Heap} {L l : Addr} {news : List (Addr × Obj)} {value slice : PySem.Expr} {a b c : Value} {n : Nat} {k : Int} {P : Value → Prop} (N : News h₀ L s.heap news) (hm : (l, listOf #[a, b, c] n) ∈ news) (hP : ∀ v ∈ [a, b, c], P v)
    (h : ∀ v, P v → Q v s) (hs : subscripted slice false (.ref l) (.int (Int.fmod k 3) u) = operate [.ref l, .int (Int.fmod k 3) u] (getItem (.ref l) (.int (Int.fmod k 3) u)) := by with_unfolding_all rfl) :
    wpAny (model prog w) A (subscriptTail value slice (.ref l) (.int (Int.fmod k 3) u)) Q E s :=
  item_at (vs := [a, b, c]) N hm (fmod_lo _ (by decide)) (fmod_hi k (by decide)) (by simp) hP h hs
end
def isAutoV (v : Value) : Prop := ∃ l t, v = .bytes (List.toArray l) t ∧ (l = [116, 114, 117, 101] ∨ l = [105, 110, 112, 117, 116] ∨ l = [102, 97, 108, 115, 101])
def isSafeV (v : Value) : Prop := ∃ l t, v = .bytes (List.toArray l) t ∧ (l = [116, 114, 117, 101] ∨ l = [102, 97, 108, 115, 101] ∨ l = [119, 97, 114, 110])
def isStrV (v : Value) : Prop := ∃ c t, v = .str c t
def isIdxV (v : Value) : Prop := v = .none ∨ ∃ b, v = .bool b
theorem isIdxV.att {v : Value} (h : isIdxV v) : Att v := by
  rcases h with rfl | ⟨b, rfl⟩
  · exact .inl rfl
  · exact .inr (.inl ⟨b, rfl⟩)
theorem auto3 (t1 t2 t3 : Tok) : ∀ v ∈ [Value.bytes ([102, 97, 108, 115, 101] : List UInt8).toArray t1, .bytes ([116, 114, 117, 101] : List UInt8).toArray t2, .bytes ([105, 110, 112, 117, 116] : List UInt8).toArray t3], isAutoV v := by
  intro v hv
  simp only [List.mem_cons, List.not_mem_nil, or_false] at hv
  rcases hv with rfl | rfl | rfl
  · exact ⟨_, _, rfl, .inr (.inr rfl)⟩
  · exact ⟨_, _, rfl, .inl rfl⟩
  · exact ⟨_, _, rfl, .inr (.inl rfl)⟩
theorem safe3 (t1 t2 t3 : Tok) : ∀ v ∈ [Value.bytes ([116, 114, 117, 101] : List UInt8).toArray t1, .bytes ([102, 97, 108, 115, 101] : List UInt8).toArray t2, .bytes ([119, 97, 114, 110] : List UInt8).toArray t3], isSafeV v := by
  intro v hv
  simp only [List.mem_cons, List.not_mem_nil, or_false] at hv
  rcases hv with rfl | rfl | rfl
  · exact ⟨_, _, rfl, .inl rfl⟩
  · exact ⟨_, _, rfl, .inr (.inl rfl)⟩
  · exact ⟨_, _, rfl, .inr (.inr rfl)⟩
theorem core3 (a b c : PySem.Str) (t1 t2 t3 : Tok) : ∀ v ∈ [Value.str a t1, .str b t2, .str c t3], isStrV v := by
  intro v hv
  simp only [List.mem_cons, List.not_mem_nil, or_false] at hv
  rcases hv with rfl | rfl | rfl <;> exact ⟨_, _, rfl⟩
theorem index3 (a b : Bool) : ∀ v ∈ [Value.none, .bool a, .bool b], isIdxV v := by
  intro v hv
  simp only [List.mem_cons, List.not_mem_nil, or_false] at hv
  rcases hv with rfl | rfl | rfl
  · exact .inl rfl
  · exact .inr ⟨_, rfl⟩
  · exact .inr ⟨_, rfl⟩
end
section
/-- the end of the statement that adds the elder word -/
def EndAttr (prog : Program) (w : World) (h₀ : Heap) (L : Addr) (m : PySem.Str → Option Value) (d : Addr) (rest : List (Addr × Obj)) (vt ve vl : Value) (s : Shared) (f : Flow) (s₂ : Shared) : Prop :=
  f = .next ∧ ∃ h' tk' o kvs, s₂ = { s with heap := h', toks := tk' } ∧ Fr h₀ L h' m ∧ News h₀ L h' ((d, o) :: rest) ∧ o.IsDictOf (bytesKind prog w) kvs ∧
    (valueAt kvs [116, 101, 120, 116]).getD .none = vt ∧ (valueAt kvs [99, 114, 108, 102]).getD .none = ve ∧ (valueAt kvs [101, 111, 108]).getD .none = vl
theorem EndAttr.intro {prog : Program} {w : World} {h₀ : Heap} {L : Addr} {m : PySem.Str → Option Value} {d : Addr} {rest : List (Addr × Obj)} {vt ve vl : Value} {s : Shared} {h' : Heap} {tk' : Nat} {o : Obj} {kvs : List (List UInt8 × Value)}
    (F : Fr h₀ L h' m) (N : News h₀ L h' ((d, o) :: rest)) (hd : o.IsDictOf (bytesKind prog w) kvs) (g1 : (valueAt kvs [116, 101, 120, 116]).getD .none = vt) (g2 : (valueAt kvs [99, 114, 108, 102]).getD .none = ve) (g3 : (valueAt kvs [101, 111, 108]).getD .none = vl) :
    EndAttr prog w h₀ L m d rest vt ve vl s .next { s with heap := h', toks := tk' } := ⟨rfl, h', tk', o, kvs, rfl, F, N, hd, g1, g2, g3⟩
section
variable {prog : Program} {w : World} {A : Around} {E : Value → Shared → Prop} {s : Shared} {h₀ : Heap} {L d : Addr} {m : PySem.Str → Option Value} {o : Obj} {rest : List (Addr × Obj)} {Q : Flow → Shared → Prop} {x : Sem Flow} {vt ve vl : Value}
theorem cut_attr (F : Fr h₀ L s.heap m) (N : News h₀ L s.heap ((d, o) :: rest)) (e1 : m (PySem.Str.ofString "text") = some vt) (e2 : m (PySem.Str.ofString "elder") = some ve) (e3 : m (PySem.Str.ofString "eol") = some vl)
    (h1 : wpAny (model prog w) A x (EndAttr prog w h₀ L m d rest vt ve vl s) E s)
    (h2 : ∀ h' tk o' kvs, o'.IsDictOf (bytesKind prog w) kvs → (valueAt kvs [116, 101, 120, 116]).getD .none = vt → (valueAt kvs [99, 114, 108, 102]).getD .none = ve → (valueAt kvs [101, 111, 108]).getD .none = vl →
      Fr h₀ L h' m → News h₀ L h' ((d, o') :: rest) → Q .next { s with heap := h', toks := tk }) : wpAny (model prog w) A x Q E s := by
  refine wpAny_mono h1 (fun f s₂ h => ?_) fun _ _ e => e
  obtain ⟨rfl, h', tk', o', kvs, rfl, F', N', hd, g1, g2, g3⟩ := h
  exact h2 h' tk' o' kvs hd g1 g2 g3 F' N'
theorem none_of' {v : Value} (h : (v == Value.none) = true) : (none : Option Value).getD Value.none = v := by
  rw [eq_of_beq h]; rfl
end
end
section
def isG (r : Str) : Bool := (r == Str.ofString "auto-crlf") || (r == Str.ofString "auto-input")
def isO (r : Str) : Bool := (r == Str.ofString "auto-crlf") || (r == Str.ofString "text-crlf")
def OneOf5 (r : Str) : Prop := r = Str.ofString "binary" ∨ r = Str.ofString "text-input" ∨ r = Str.ofString "text-crlf" ∨ r = Str.ofString "auto-input" ∨ r = Str.ofString "auto-crlf"
theorem auto_isG {r : Str} (h : OneOf5 r) : isAuto r = isG r := by
  rcases h with rfl | rfl | rfl | rfl | rfl <;> decide
theorem out_isO {r : Str} (h : OneOf5 r) : isOut r = isO r := by
  rcases h with rfl | rfl | rfl | rfl | rfl <;> decide
/-- the law's still, on the way in -/
def st1L (k : Nat) (b : List UInt8) (G : Bool) (ix : Value) : Bool := isBin (lead k ++ b) || (G && (hasCL b && (ix == Value.bool true)))
/-- and its refusal -/
def refL (S : Bool) (sf b : List UInt8) : Bool := !S && (decide (sf = [116, 114, 117, 101]) && (hasCL b && (!hasCL (short b) && (long (short b) != b))))
/-- and on the way out -/
def st2L (k : Nat) (b : List UInt8) (G O : Bool) : Bool := isBin (lead k ++ b) || (!O || (G && b.contains 13))
theorem beq_bool {v : Value} (h : v = .none ∨ ∃ b, v = .bool b) : (v == Value.bool true) = decide (v = Value.bool true) := by
  rcases h with rfl | ⟨b, rfl⟩
  · rfl
  · cases b <;> rfl
theorem still_law {k : Nat} {b : List UInt8} {r : Str} {ix : Value} (h5 : OneOf5 r) (hix : ix = .none ∨ ∃ b, ix = .bool b) : stillC (lead k ++ b) (if isAuto r = true then ix else .none) = st1L k b (isG r) ix := by
  unfold stillC st1L
  rw [has_lead, auto_isG h5, beq_bool hix]
  cases isG r <;> simp
theorem smudge_law {k : Nat} {b : List UInt8} {r : Str} (h5 : OneOf5 r) : stillS (lead k ++ b) (if isOut r = true then .bool true else .none) (isAuto r) = st2L k b (isG r) (isO r) := by
  unfold stillS st2L
  rw [cr_lead, auto_isG h5, out_isO h5]
  cases isO r <;> simp
theorem bad_law {k : Nat} {b sf : List UInt8} : (decide (sf = [116, 114, 117, 101]) && bad (lead k ++ b) (short (lead k ++ b))) = refL false sf b := by
  rw [bad_lead]
  unfold refL
  simp [Bool.and_assoc]
section
variable {w : World} {p : Program} {loose : List Str} {mean : ExcName → Option Value} {mg mb : Str → Option Value} {dp un : Nat} {gd : Option (List Code)} {cn : Str} {cs : Scope} {a : Addr} {ccd : Value} {cl : List (Str × Addr)} {outer : List Env} {A₀ : Around} {base h₀ : Heap} {L : Addr} {m : Str → Option Value} {s : Shared} {Q E : Value → Shared → Prop} {news : List (Addr × Obj)} {sf b : List UInt8} {t t1 t2 t3 t4 : Tok} {ix : Value} {r : Str} {x dx k1 k2 k3 k4 k5 k6 : Addr} {k : Nat} {S R : Bool}
theorem c_law_action5 {auto : List UInt8} {core : Str} {vt ve vl : Value} (B : Below A₀ base outer h₀) (F : Fr h₀ L s.heap m) (X : (Mine.hd.heap_39 w.params).In h₀) (N : News h₀ L s.heap news) (T : Top p loose mean mg mb h₀) (hk : cs.kind = .function)
    (hd : dp + 3 < recursionLimit) (hu : un + 60 < cLine) (hvt : Att vt) (hve : Att ve) (hvl : Att vl) (hau : auto = [116, 114, 117, 101] ∨ auto = [105, 110, 112, 117, 116] ∨ auto = [102, 97, 108, 115, 101])
    (hret : ∀ r, OneOf5 r → resS vt ve vl core auto = r → ∀ h' tk' t', Fr h₀ L h' m → News h₀ L h' news → Q (.str r t') { s with heap := h', toks := tk' }) :
    wpAny (model PySem.Challenge.rw_iy0006_01.row.prog w) (ktrTop dp un gd cn cs L a ccd cl outer) (call (.ref 161) [vt, ve, vl, .str core t1, .bytes auto.toArray t2]) Q E s :=
  c_law_action B F X N T hk hd hu hvt hve hvl hau (hret _ (res5 vt ve vl core auto) rfl)
theorem c_resolve5 {auto : List UInt8} {core : Str} {vt ve vl : Value} {d : Addr} {o : Obj} {kvs : List (List UInt8 × Value)} (B : Below A₀ base outer h₀) (F : Fr h₀ L s.heap m) (X : (Mine.hd.heap_39 w.params).In h₀) (N : News h₀ L s.heap news) (T : Top p loose mean mg mb h₀) (hk : cs.kind = .function)
    (hd : dp + 3 < recursionLimit) (hu : un + 60 < cLine) (hmem : (d, o) ∈ news) (hdict : o.IsDictOf (bytesKind PySem.Challenge.rw_iy0006_01.row.prog w) kvs) (lo : (d == sysModules) = false)
    (g1 : (valueAt kvs [116, 101, 120, 116]).getD .none = vt) (g2 : (valueAt kvs [99, 114, 108, 102]).getD .none = ve) (g3 : (valueAt kvs [101, 111, 108]).getD .none = vl) (hvt : Att vt) (hve : Att ve) (hvl : Att vl) (hr : resS vt ve vl core auto = r)
    (hret : ∀ h' tk' t', Fr h₀ L h' m → News h₀ L h' news → Q (.str r t') { s with heap := h', toks := tk' }) :
    wpAny (model PySem.Challenge.rw_iy0006_01.row.prog w) (ktrTop dp un gd cn cs L a ccd cl outer) (call (.ref 65) [.ref d, .str core t1, .bytes auto.toArray t2]) Q E s := by
  subst hr
  exact c_resolve B F X N T hk hd hu hvt hve hvl hmem hdict lo g1 g2 g3 hret
theorem c_filter_any {sf : Array UInt8} (B : Below A₀ base outer h₀) (F : Fr h₀ L s.heap m) (X : (Mine.hd.heap_39 w.params).In h₀) (N : News h₀ L s.heap news) (T : Top p loose mean mg mb h₀) (hk : cs.kind = .function)
    (hd : dp + 5 < recursionLimit) (hu : un + 60 < cLine)
    (h1 : (r == Str.ofString "binary") = true → ∀ h' tk', Fr h₀ L h' m → News h₀ L h' news → Q .none { s with heap := h', toks := tk' })
    (h2 : (r == Str.ofString "binary") = false → ∀ x dx k1 k2 k3 k4 k5 k6 h' tk', Fr h₀ L h' m → News h₀ L h' ((x, instObj 114 dx) :: (dx, fields w k1 k2 k3 k4 k5 k6 (if isOut r = true then .bool true else .none) (.bytes sf t3) (isAuto r) (if isAuto r = true then ix else .none)) :: news) → Q (.ref x) { s with heap := h', toks := tk' }) :
    wpAny (model PySem.Challenge.rw_iy0006_01.row.prog w) (ktrTop dp un gd cn cs L a ccd cl outer) (call (.ref 73) [.str r t1, .bytes sf t3, ix]) Q E s := by
  cases hb : (r == Str.ofString "binary") with
  | true => exact c_filter_bin B F X N T hk hd hu hb (h1 hb)
  | false => exact c_filter B F X N T hk hd hu hb (h2 hb)
theorem if_idx {c : Bool} (hix : ix = .none ∨ ∃ b, ix = .bool b) : (if c = true then ix else Value.none) = .none ∨ ∃ b, (if c = true then ix else Value.none) = .bool b := by
  cases c
  · exact .inl rfl
  · exact hix
theorem c_clean_law (B : Below A₀ base outer h₀) (F : Fr h₀ L s.heap m) (X : (Mine.hd.heap_39 w.params).In h₀) (N : News h₀ L s.heap news) (T : Top p loose mean mg mb h₀) (hk : cs.kind = .function)
    (hd : dp + 5 < recursionLimit) (hu : un + 100 < cLine) (hl : (lead k ++ b).length ≤ 10000) (hx : (x, instObj 114 dx) ∈ news) (hdx : (dx, fields w k1 k2 k3 k4 k5 k6 (if isOut r = true then .bool true else .none) (.bytes sf.toArray t3) (isAuto r) (if isAuto r = true then ix else .none)) ∈ news)
    (h5 : OneOf5 r) (hix : ix = .none ∨ ∃ b, ix = .bool b) (hsf : sf = [116, 114, 117, 101] ∨ sf = [102, 97, 108, 115, 101] ∨ sf = [119, 97, 114, 110])
    (hS : st1L k b (isG r) ix = S) (hR : refL S sf b = R)
    (hstill : S = true → ∀ h' tk' t', Fr h₀ L h' m → News h₀ L h' news → Q (.bytes (lead k ++ b).toArray t') { s with heap := h', toks := tk' })
    (hshort : S = false → R = false → ∀ h' tk' t', Fr h₀ L h' m → News h₀ L h' news → Q (.bytes (lead k ++ short b).toArray t') { s with heap := h', toks := tk' })
    (hraise : S = false → R = true → Out base h₀ L m (envX cn cs L a ccd cl :: outer) news s E) :
    wpAny (model PySem.Challenge.rw_iy0006_01.row.prog w) (ktrTop dp un gd cn cs L a ccd cl outer) (call (.ref 96) [.ref x, .bytes (lead k ++ b).toArray t]) Q E s := by
  have e1 := still_law (k := k) (b := b) h5 hix
  have e2 := bad_law (k := k) (b := b) (sf := sf)
  refine c_clean B F X N T hk hd hu hl hx hdx (if_idx hix) hsf (fun h => ?_) (fun h g => ?_) (fun h g => ?_)
  · rw [e1, hS] at h; exact hstill h
  · rw [e1, hS] at h; subst h; rw [e2, hR] at g; rw [short_lead]; exact hshort rfl g
  · rw [e1, hS] at h; subst h; rw [e2, hR] at g; exact hraise rfl g
theorem c_smudge_law (B : Below A₀ base outer h₀) (F : Fr h₀ L s.heap m) (X : (Mine.hd.heap_39 w.params).In h₀) (N : News h₀ L s.heap news) (T : Top p loose mean mg mb h₀) (hk : cs.kind = .function)
    (hd : dp + 5 < recursionLimit) (hu : un + 100 < cLine) (hl : (lead k ++ b).length ≤ 10000) (hx : (x, instObj 114 dx) ∈ news) (hdx : (dx, fields w k1 k2 k3 k4 k5 k6 (if isOut r = true then .bool true else .none) (.bytes sf.toArray t3) (isAuto r) (if isAuto r = true then ix else .none)) ∈ news)
    (h5 : OneOf5 r) (hsf : sf = [116, 114, 117, 101] ∨ sf = [102, 97, 108, 115, 101] ∨ sf = [119, 97, 114, 110])
    (hS : st2L k b (isG r) (isO r) = S)
    (hstill : S = true → ∀ h' tk' t', Fr h₀ L h' m → News h₀ L h' news → Q (.bytes (lead k ++ b).toArray t') { s with heap := h', toks := tk' })
    (hlong : S = false → ∀ h' tk' t', Fr h₀ L h' m → News h₀ L h' news → Q (.bytes (lead k ++ long b).toArray t') { s with heap := h', toks := tk' }) :
    wpAny (model PySem.Challenge.rw_iy0006_01.row.prog w) (ktrTop dp un gd cn cs L a ccd cl outer) (call (.ref 104) [.ref x, .bytes (lead k ++ b).toArray t]) Q E s := by
  have e1 := smudge_law (k := k) (b := b) h5
  refine c_smudge B F X N T hk hd hu hl hx hdx (by cases isOut r <;> simp) hsf (fun h => ?_) (fun h => ?_)
  · rw [e1, hS] at h; exact hstill h
  · rw [e1, hS] at h; rw [long_lead]; exact hlong h
end
section
variable {prog : Program} {w : World} {A : Around} {E : Value → Shared → Prop} {s : Shared} {t u : Tok}
theorem ne_same_str {r : Str} {Q : Value → Shared → Prop} (h : Q (.bool false) s) : wpAny (model prog w) A (compareOp .NotEq (.str r t) (.str r u)) Q E s :=
  ne_strB (r := true) (by simp) h
end
section
variable {M : Model} {A : Around} {E : Value → Shared → Prop} {s : Shared} {h₀ : Heap} {L : Addr} {m : PySem.Str → Option Value} {news : List (Addr × Obj)} {Q : Flow → Shared → Prop} {x : Sem Flow} {t t1 t2 : Tok} {r : Str} {k : Nat} {b sf : List UInt8} {B G H O S : Bool} {ix : Value}
/-- a truth value named and kept -/
theorem cut_bool (β : Bool) {y : PySem.Str} (h1 : wpAny M A x (EndP h₀ L m y (fun v => v = .bool β) news s) E s)
    (h2 : ∀ h' tk, let m₂ : PySem.Str → Option Value := (fun z => if z = y then some (.bool β) else m z); let nx : List (Addr × Obj) := news; Fr h₀ L h' m₂ → News h₀ L h' nx → Q .next { s with heap := h', toks := tk }) : wpAny M A x Q E s := by
  refine cut_name _ h1 ?_
  rintro v h' tk rfl F N
  exact h2 h' tk F N
/-- a truth value named and split -/
theorem cut_split (β : Bool) {y : PySem.Str} (h1 : wpAny M A x (EndP h₀ L m y (fun v => v = .bool β) news s) E s)
    (h2 : β = true → ∀ h' tk, let m₂ : PySem.Str → Option Value := (fun z => if z = y then some (.bool true) else m z); let nx : List (Addr × Obj) := news; Fr h₀ L h' m₂ → News h₀ L h' nx → Q .next { s with heap := h', toks := tk })
    (h3 : β = false → ∀ h' tk, let m₂ : PySem.Str → Option Value := (fun z => if z = y then some (.bool false) else m z); let nx : List (Addr × Obj) := news; Fr h₀ L h' m₂ → News h₀ L h' nx → Q .next { s with heap := h', toks := tk }) : wpAny M A x Q E s := by
  refine cut_bool β h1 ?_
  intro h' tk M9 NX9 F N
  cases β with
  | true => exact h2 rfl h' tk F N
  | false => exact h3 rfl h' tk F N
theorem cut_guess (F : Fr h₀ L s.heap m) (N : News h₀ L s.heap news) (e1 : m (PySem.Str.ofString "expected") = some (.str r t))
    (h1 : wpAny M A x (EndP h₀ L m (PySem.Str.ofString "guess") (fun v => v = .bool (isG r)) news s) E s)
    (h2 : ∀ h' tk, let m₂ : PySem.Str → Option Value := (fun z => if z = PySem.Str.ofString "guess" then some (.bool (isG r)) else m z); let nx : List (Addr × Obj) := news; Fr h₀ L h' m₂ → News h₀ L h' nx → Q .next { s with heap := h', toks := tk }) : wpAny M A x Q E s := cut_bool _ h1 h2
theorem cut_out (F : Fr h₀ L s.heap m) (N : News h₀ L s.heap news) (e1 : m (PySem.Str.ofString "expected") = some (.str r t))
    (h1 : wpAny M A x (EndP h₀ L m (PySem.Str.ofString "out") (fun v => v = .bool (isO r)) news s) E s)
    (h2 : ∀ h' tk, let m₂ : PySem.Str → Option Value := (fun z => if z = PySem.Str.ofString "out" then some (.bool (isO r)) else m z); let nx : List (Addr × Obj) := news; Fr h₀ L h' m₂ → News h₀ L h' nx → Q .next { s with heap := h', toks := tk }) : wpAny M A x Q E s := cut_bool _ h1 h2
theorem cut_still1 (F : Fr h₀ L s.heap m) (N : News h₀ L s.heap news) (e1 : m (PySem.Str.ofString "lead") = some (.bytes (lead k).toArray t1)) (e2 : m (PySem.Str.ofString "body") = some (.bytes b.toArray t2)) (e3 : m (PySem.Str.ofString "guess") = some (.bool G)) (e4 : m (PySem.Str.ofString "index") = some ix)
    (h1 : wpAny M A x (EndP h₀ L m (PySem.Str.ofString "still") (fun v => v = .bool (st1L k b G ix)) news s) E s)
    (h2 : st1L k b G ix = true → ∀ h' tk, let m₂ : PySem.Str → Option Value := (fun z => if z = PySem.Str.ofString "still" then some (.bool true) else m z); let nx : List (Addr × Obj) := news; Fr h₀ L h' m₂ → News h₀ L h' nx → Q .next { s with heap := h', toks := tk })
    (h3 : st1L k b G ix = false → ∀ h' tk, let m₂ : PySem.Str → Option Value := (fun z => if z = PySem.Str.ofString "still" then some (.bool false) else m z); let nx : List (Addr × Obj) := news; Fr h₀ L h' m₂ → News h₀ L h' nx → Q .next { s with heap := h', toks := tk }) : wpAny M A x Q E s := cut_split _ h1 h2 h3
theorem cut_refused (F : Fr h₀ L s.heap m) (N : News h₀ L s.heap news) (e1 : m (PySem.Str.ofString "still") = some (.bool S)) (e2 : m (PySem.Str.ofString "body") = some (.bytes b.toArray t2)) (e3 : m (PySem.Str.ofString "safe") = some (.bytes sf.toArray t1))
    (h1 : wpAny M A x (EndP h₀ L m (PySem.Str.ofString "refused") (fun v => v = .bool (refL S sf b)) news s) E s)
    (h2 : refL S sf b = true → ∀ h' tk, let m₂ : PySem.Str → Option Value := (fun z => if z = PySem.Str.ofString "refused" then some (.bool true) else m z); let nx : List (Addr × Obj) := news; Fr h₀ L h' m₂ → News h₀ L h' nx → Q .next { s with heap := h', toks := tk })
    (h3 : refL S sf b = false → ∀ h' tk, let m₂ : PySem.Str → Option Value := (fun z => if z = PySem.Str.ofString "refused" then some (.bool false) else m z); let nx : List (Addr × Obj) := news; Fr h₀ L h' m₂ → News h₀ L h' nx → Q .next { s with heap := h', toks := tk }) : wpAny M A x Q E s := cut_split _ h1 h2 h3
theorem cut_still2 (F : Fr h₀ L s.heap m) (N : News h₀ L s.heap news) (e1 : m (PySem.Str.ofString "lead") = some (.bytes (lead k).toArray t1)) (e2 : m (PySem.Str.ofString "body") = some (.bytes b.toArray t2)) (e3 : m (PySem.Str.ofString "guess") = some (.bool G)) (e4 : m (PySem.Str.ofString "out") = some (.bool O))
    (h1 : wpAny M A x (EndP h₀ L m (PySem.Str.ofString "still") (fun v => v = .bool (st2L k b G O)) news s) E s)
    (h2 : st2L k b G O = true → ∀ h' tk, let m₂ : PySem.Str → Option Value := (fun z => if z = PySem.Str.ofString "still" then some (.bool true) else m z); let nx : List (Addr × Obj) := news; Fr h₀ L h' m₂ → News h₀ L h' nx → Q .next { s with heap := h', toks := tk })
    (h3 : st2L k b G O = false → ∀ h' tk, let m₂ : PySem.Str → Option Value := (fun z => if z = PySem.Str.ofString "still" then some (.bool false) else m z); let nx : List (Addr × Obj) := news; Fr h₀ L h' m₂ → News h₀ L h' nx → Q .next { s with heap := h', toks := tk }) : wpAny M A x Q E s := cut_split _ h1 h2 h3
end
end
section
section
variable {r : Str} {k : Nat} {b sf : List UInt8} {G O : Bool} {ix : Value}
theorem lg1 (h : (r == Str.ofString "auto-crlf") = true) : Value.bool (r == Str.ofString "auto-crlf") = Value.bool (isG r) := by rw [isG, h]; rfl
theorem lg2 (h : (r == Str.ofString "auto-crlf") = false) : Value.bool (r == Str.ofString "auto-input") = Value.bool (isG r) := by rw [isG, h]; rfl
theorem lo1 (h : (r == Str.ofString "auto-crlf") = true) : Value.bool (r == Str.ofString "auto-crlf") = Value.bool (isO r) := by rw [isO, h]; rfl
theorem lo2 (h : (r == Str.ofString "auto-crlf") = false) : Value.bool (r == Str.ofString "text-crlf") = Value.bool (isO r) := by rw [isO, h]; rfl
theorem ls1 (h : isBin (lead k ++ b) = true) : Value.bool (isBin (lead k ++ b)) = Value.bool (st1L k b G ix) := by rw [st1L, h]; rfl
theorem ls2 (h : isBin (lead k ++ b) = false) (h2 : G = true) (h3 : hasCL b = true) : Value.bool (ix == Value.bool true) = Value.bool (st1L k b G ix) := by rw [st1L, h, h2, h3]; rfl
theorem ls3 (h : isBin (lead k ++ b) = false) (h2 : G = true) (h3 : hasCL b = false) : Value.bool (hasCL b) = Value.bool (st1L k b G ix) := by rw [st1L, h, h2, h3]; rfl
theorem ls4 (h : isBin (lead k ++ b) = false) (h2 : G = false) : Value.bool G = Value.bool (st1L k b G ix) := by rw [st1L, h, h2]; rfl
theorem lr1 : (Value.bool !true) = Value.bool (refL true sf b) := by rfl
theorem lr_sf {c : Bool} (h : (sf.toArray.toList == ([116, 114, 117, 101] : List UInt8).toArray.toList) = c) : decide (sf = [116, 114, 117, 101]) = c := by
  rw [← h, Bool.eq_iff_iff]
  simp
theorem lr2 (h : (sf.toArray.toList == ([116, 114, 117, 101] : List UInt8).toArray.toList) = true) (h2 : hasCL b = true) (h3 : hasCL (short b) = true) : (Value.bool !hasCL (short b)) = Value.bool (refL false sf b) := by
  rw [refL, lr_sf h, h2, h3]; rfl
theorem lr3 (h : (sf.toArray.toList == ([116, 114, 117, 101] : List UInt8).toArray.toList) = true) (h2 : hasCL b = true) (h3 : hasCL (short b) = false) : Value.bool ((long (short b)).toArray.toList != b.toArray.toList) = Value.bool (refL false sf b) := by
  rw [refL, lr_sf h, h2, h3]; rfl
theorem lr4 (h : (sf.toArray.toList == ([116, 114, 117, 101] : List UInt8).toArray.toList) = true) (h2 : hasCL b = false) : Value.bool (hasCL b) = Value.bool (refL false sf b) := by
  rw [refL, lr_sf h, h2]; rfl
theorem lr5 (h : (sf.toArray.toList == ([116, 114, 117, 101] : List UInt8).toArray.toList) = false) : Value.bool (sf.toArray.toList == ([116, 114, 117, 101] : List UInt8).toArray.toList) = Value.bool (refL false sf b) := by
  rw [refL, lr_sf h, h]; rfl
theorem lt1 (h : isBin (lead k ++ b) = true) : Value.bool (isBin (lead k ++ b)) = Value.bool (st2L k b G O) := by rw [st2L, h]; rfl
theorem lt2 (h : isBin (lead k ++ b) = false) (h2 : O = false) : (Value.bool !O) = Value.bool (st2L k b G O) := by rw [st2L, h, h2]; rfl
theorem lt3 (h : isBin (lead k ++ b) = false) (h2 : O = true) (h3 : G = true) : Value.bool (b.contains 13) = Value.bool (st2L k b G O) := by rw [st2L, h, h2, h3]; rfl
theorem lt4 (h : isBin (lead k ++ b) = false) (h2 : O = true) (h3 : G = false) : Value.bool G = Value.bool (st2L k b G O) := by rw [st2L, h, h2, h3]; rfl
theorem ref_no : ¬ refL true sf b = true := by unfold refL; simp
end
end
section
theorem peel {z y : PySem.Str} {stored : List PySem.Str} (h : stored.contains z = false) (hm : stored.contains y = true) : z ≠ y := by
  intro e; rw [e, hm] at h; cases h
theorem peel_in {z : PySem.Str} {stored : List PySem.Str} (h : stored.contains z = false) : ¬ (stored.contains z = true) := by
  rw [h]; exact Bool.false_ne_true
theorem bin_yes {k : Nat} {b : List UInt8} (h : 0 ≤ findInt b [0]) : Value.bool (decide (((k : Nat) : Int) + findInt b [0] < 8000)) = Value.bool (isBin (lead k ++ b)) := by rw [bin_find, decide_eq_true h]; rfl
theorem bin_no {k : Nat} {b : List UInt8} (h : ¬ (0 ≤ findInt b [0])) : Value.bool (decide (0 ≤ findInt b [0])) = Value.bool (isBin (lead k ++ b)) := by rw [bin_find, decide_eq_false h]; rfl
end
section
theorem holds : PySem.Challenge.rw_iy0006_01.Holds := Mine.hd (by
  k_with_none
  k_with "getMethod bytes" => (k_here; (first | (with_reducible refine m_find ?_) | (with_reducible refine m_replace ?_) | (with_reducible refine m_split ?_) | (with_reducible refine m_join ?_) | (with_reducible refine m_endswith ?_)))
  k_with "compareOp In bytes bytes" => (k_here; (with_reducible show wpAny _ _ (compareOp CmpOp.In (Value.bytes _ _) (Value.bytes _ _)) _ _ _); k_dflt (refine' in_bytes (by rfl) (by k_asm) (by k_asm) (by first | exact in_cl _ | exact in_one _ _) ?_); intro h' tk' F' N')
  k_with "compareOp NotIn bytes bytes" => (k_here; (with_reducible show wpAny _ _ (compareOp CmpOp.NotIn (Value.bytes _ _) (Value.bytes _ _)) _ _ _); k_dflt (refine' notin_bytes (by rfl) (by k_asm) (by k_asm) (by first | exact in_cl _ | exact in_one _ _) ?_); intro h' tk' F' N')
  k_with "call ref" => (k_here; (with_reducible show wpAny _ _ (call (Value.ref 125) [Value.bytes (List.toArray _) _]) _ _ _); k_dflt (refine' c_short (by k_asm) (by k_asm) (by k_asm) (by k_asm) (by k_asm) (by first | exact rfl | assumption) (by decide) (by decide) (by (simp only [List.length_append, lead_len]; omega)) ?_); intro h' tk' t' F' N'; (try dsimp only); (try k_fold))
  k_with "call ref" => (k_here; (with_reducible show wpAny _ _ (call (Value.ref 132) [Value.bytes (List.toArray _) _]) _ _ _); k_dflt (refine' c_long (by k_asm) (by k_asm) (by k_asm) (by k_asm) (by k_asm) (by first | exact rfl | assumption) (by decide) (by decide) (by (simp only [List.length_append, lead_len]; omega)) ?_); intro h' tk' t' F' N'; (try dsimp only); (try k_fold))
  k_with "call ref" => (k_here; (with_reducible show wpAny _ _ (call (Value.ref 166) [Value.bytes (List.toArray _) _]) _ _ _); k_dflt (refine' c_short_law (by k_asm) (by k_asm) (by k_asm) (by k_asm) (by k_asm) (by first | exact rfl | assumption) (by decide) (by decide) (by omega) ?_); intro h' tk' t' F' N'; (try dsimp only); (try k_fold))
  k_with "call ref" => (k_here; (with_reducible show wpAny _ _ (call (Value.ref 173) [Value.bytes (List.toArray _) _]) _ _ _); k_dflt (refine' c_long_law (by k_asm) (by k_asm) (by k_asm) (by k_asm) (by k_asm) (by first | exact rfl | assumption) (by decide) (by decide) (by first | omega | exact Nat.le_trans (short_len _) (by omega)) ?_); intro h' tk' t' F' N'; (try dsimp only); (try k_fold))
  k_with "call ref" => (k_here; (with_reducible show wpAny _ _ (call (Value.ref 154) _) _ _ _); k_dflt (refine' c_pieces (by k_asm) (by k_asm) (by k_asm) (by k_asm) (by k_asm) (by first | exact rfl | assumption) (by decide) (by decide)  ?_); intro D' vs' h' tk' hv' hl' F' N' lt'; (try dsimp only); (try k_fold))
  k_with "call ref" => (k_here; (with_reducible show wpAny _ _ (call (Value.ref 147) _) _ _ _); k_dflt (refine' c_values (by k_asm) (by k_asm) (by k_asm) (by k_asm) (by k_asm) (by first | exact rfl | assumption) (by decide) (by decide)  ?_); intro D' vs' h' tk' hv' hl' F' N' lt'; (try dsimp only); (try k_fold))
  k_with "call ref" => (k_here; (with_reducible show wpAny _ _ (call (Value.ref 161) [_, _, _, Value.str _ _, Value.bytes (List.toArray _) _]) _ _ _); k_dflt (refine' c_law_action5 (by k_asm) (by k_asm) (by k_asm) (by k_asm) (by k_asm) (by first | exact rfl | assumption) (by decide) (by decide) (by assumption) (by assumption) (by assumption) (by assumption) ?_); intro r' h5' hr' h' tk' t' F' N'; (try dsimp only); (try k_fold))
  k_with "call ref" => (k_here; (with_reducible show wpAny _ _ (call (Value.ref 65) [Value.ref _, Value.str _ _, Value.bytes (List.toArray _) _]) _ _ _); k_dflt (refine' c_resolve5 (by k_asm) (by k_asm) (by k_asm) (by k_asm) (by k_asm) (by first | exact rfl | assumption) (by decide) (by decide) (by k_mem) (by k_asm) (by assumption) (by assumption) (by assumption) (by assumption) (by assumption) (by assumption) (by assumption) (by assumption) ?_); intro h' tk' t' F' N'; (try dsimp only); (try k_fold))
  k_with "storeName" => (k_here; k_dflt (refine store_let (by k_asm) (by k_asm) ?_); intro h' M9 F' N'; (try k_sweep))
  k_with "m_iter" => (k_here; (rename IntsAre _ _ => hI9); (rename News _ _ _ _ => N9); (rename Fr _ _ _ _ => F9); (have hlen9 := hI9.length); k_dflt (refine for_body (y := PySem.Str.ofString "body") (N := N9) (F := F9) (hi := hI9) (by decide) (by rfl) (by k_mem) (by rfl) (fun i n t b tb s₁ own hn hb hi F' N' => ?_) (fun h' tk b tb u hb F' N' => ?_)); all_goals (have hb27 : List.length b ≤ 27 := by omega))
  k_with "subscriptTail" => (k_here; (rename ∀ v ∈ _, ∃ l t, v = Value.bytes (List.toArray l) t ∧ _ => hv9); (rename List.length _ = 8 => hl9); k_dflt (refine item_at (P := fun v => ∃ (l : List UInt8) (t : Tok), v = .bytes l.toArray t ∧ l.length ≤ 3) (by k_asm) (by k_mem) (fmod_lo _ (by decide)) (by rw [hl9]; exact fmod_hi _ (by decide)) (by omega) hv9 ?_); intro v9 hw9; obtain ⟨l9, t9, hr9, hz9⟩ := hw9; subst hr9)
  k_with "inplaceOp Add bytes" => (k_here; (try dsimp only); k_dflt (refine iadd_bytes (by (try simp only [List.length_cons, List.length_nil]); omega) ?_); intro t' k')
  k_with "exec If" => (k_here; (with_reducible show wpAny _ _ (exec (Stmt.If _ [Stmt.Assign [Expr.Name (PySem.Str.ofString "lead") _] _ _] [] _) _) _ _ _); (fail_if_success (with_reducible show wpAny _ _ _ (EndP _ _ _ _ _ _ _) _ _)); k_dflt (refine cut_lead (by k_asm) (by k_asm) ?_ ?_); (try k_fold); (rotate_left; intro k t h' tk hk M9 NX9 F' N'; rotate_right))
  k_with "binaryOp Mult bytes int" => (k_here; k_dflt (refine mul_lead' ?_); intro t' k' n' hn')
  k_with "binaryOp Add bytes bytes" => (k_here; k_dflt (refine add_octets (by (simp only [lead_len, List.length_append]); first | omega | exact Nat.le_trans (Nat.add_le_add_left (short_len _) _) (by omega) | exact Nat.le_trans (Nat.add_le_add_left (long_len _) _) (by omega)) ?_); intro t' k')
  k_with "compareOp NotEq bytes bytes" => (k_here; k_dflt (refine ne_same (by first | rfl | exact short_lead _ _ | exact long_lead _ _) ?_))
  k_with "call builtin:bytes.find" => (k_here; k_dflt (refine find_zero ?_); intro t' k')
  k_with "exec Assign cons BoolOp" => (k_here; (with_reducible show wpAny _ _ (exec (Stmt.Assign [Expr.Name (PySem.Str.ofString "binary") _] _ _) _) _ _ _); (fail_if_success (with_reducible show wpAny _ _ _ (EndP _ _ _ _ _ _ _) _ _)); k_dflt (refine cut_binary (by k_asm) (by k_asm) (by exact rfl) (by exact rfl) ?_ ?_); (try k_fold); (rotate_left; intro h' tk M9 NX9 F' N'; rotate_right))
  k_with "call builtin:len" => (k_here; (with_reducible show wpAny _ _ (call (Value.builtin "len") [Value.bytes _ _]) _ _ _); k_dflt (refine len_lead (by assumption) ?_); intro t' k')
  k_with "m_bin" => (first | exact bin_yes (by omega) | exact bin_no (by omega))
  k_with "m_endp" => ((rename News _ _ _ _ => N9); (rename Fr _ _ _ _ => F9); refine EndP.intro F9 N9 (by first | exact fun _ hp => hp | exact fun _ hp => .tail _ hp) (by with_unfolding_all rfl) ?_ (fun z h1 => by first | rfl | exact if_neg h1 | exact (if_neg h1).trans (if_neg h1)))
  k_with "m_lead" => (first | exact lead_zero _ | exact lead_some (by assumption))
  k_with "exec For Name Call cons nil" => (k_here; (rename Fr _ _ _ _ => lF'); (with_unfolding_all refine' For_invVF lF' (by exact rfl) (by exact rfl) ?_; k_whole))
  k_with "m_iter" => (k_here; (rename IsRange _ _ _ _ _ _ _ _ => hr9); (rename News _ _ _ _ => N9); (rename Fr _ _ _ _ => F9); k_dflt (refine for_turns (N := N9) (F := F9) (hr := hr9) [PySem.Str.ofString "n", PySem.Str.ofString "auto", PySem.Str.ofString "text", PySem.Str.ofString "eol", PySem.Str.ofString "elder", PySem.Str.ofString "core", PySem.Str.ofString "safe", PySem.Str.ofString "index", PySem.Str.ofString "attributes", PySem.Str.ofString "expected", PySem.Str.ofString "action", PySem.Str.ofString "made", PySem.Str.ofString "guess", PySem.Str.ofString "out", PySem.Str.ofString "still", PySem.Str.ofString "refused", PySem.Str.ofString "told"] (by rfl) (by omega) (by omega) ?_ ?_); (intro i ti z' h tk own h0 hi M9 NX9 F' N'); (try k_fold); (rotate_left; intro h' tk u' z' F' N'; rotate_right))
  k_with "exec Assign cons IfExp" => (k_here; (with_reducible show wpAny _ _ (exec (Stmt.Assign [Expr.Name (PySem.Str.ofString "n") _] _ _) _) _ _ _); (fail_if_success (with_reducible show wpAny _ _ _ (EndP _ _ _ _ _ _ _) _ _)); k_dflt (refine cut_int (PySem.Str.ofString "n") (by k_asm) (by k_asm) ?_ ?_); (try k_fold); (rotate_left; intro n t h' tk M9 NX9 F' N'; rotate_right))
  k_with "subscriptTail" => (k_here; (with_reducible show wpAny _ _ (subscriptTail _ _ (Value.ref _) (Value.int _ _)) _ _ _); ((rename ∀ v ∈ _, Att v => hv9); (rename List.length _ = 8 => hl9); k_dflt (refine item_at (P := Att) (by k_asm) (by k_mem) (fmod_lo _ (by decide)) (by rw [hl9]; exact fmod_hi _ (by decide)) (by omega) hv9 ?_); intro v9 hw9))
  k_with "subscriptTail" => (k_here; (with_reducible show wpAny _ _ (subscriptTail _ _ (Value.ref _) (Value.int (Int.fmod _ 3) _)) _ _ _); (first
      | (k_dflt (refine item_at3 (P := isAutoV) (by k_asm) (by k_mem) (auto3 _ _ _) ?_); intro v9 hw9; obtain ⟨l9, t9, hr9, hz9⟩ := hw9; subst hr9)
      | (k_dflt (refine item_at3 (P := isSafeV) (by k_asm) (by k_mem) (safe3 _ _ _) ?_); intro v9 hw9; obtain ⟨l9, t9, hr9, hz9⟩ := hw9; subst hr9)
      | (k_dflt (refine item_at3 (P := isStrV) (by k_asm) (by k_mem) (core3 _ _ _ _ _ _) ?_); intro v9 hw9; obtain ⟨l9, t9, hr9⟩ := hw9; subst hr9)
      | (k_dflt (refine item_at3 (P := isIdxV) (by k_asm) (by k_mem) (index3 _ _) ?_); intro v9 hw9; (have hA9 := isIdxV.att hw9))))
  k_with "eval Dict" => (k_here; (with_reducible show wpAny _ _ (eval (Expr.Dict (some (Expr.Constant (Const.bytes _) _ _) :: _) _ _) _) _ _ _); k_dflt (refine' kdn_eval (knd := bytesKind _ _) (by k_asm) (by first | k_asm | exact News.nil) (by exact Top.nolimit (by k_asm)) (by rfl) (by rfl) (by exact List.cons_ne_nil _ _) (by exact Nat.le_of_ble_eq_true rfl) ?_); intro d' h' o' F' N' l1 lo' hd'; (try k_lt l1))
  k_with "KdnMade" => (k_here; k_dflt (refine' made_bytesN (by k_asm) (by k_asm) (by exact UpdF.head (fun q hq => Nat.ne_of_lt (kst_ltOf (by first | assumption | exact allLt_of (by assumption) | exact And.right (by assumption)) q hq))) (by k_asm) (by (repeat' (first | exact carries_nil | apply carries_cons))) (by exact of_decide_eq_true (by first | rfl | kernel_rfl!)) ?_; intro h' o' F' N' hd'); (try dsimp only at N'))
  k_with "exec If" => (k_here; (with_reducible show wpAny _ _ (exec (Stmt.If _ [Stmt.Assign [Expr.Subscript _ _ _] _ _] [] _) _) _ _ _); (fail_if_success (with_reducible show wpAny _ _ _ (EndAttr _ _ _ _ _ _ _ _ _ _ _) _ _)); k_dflt (refine cut_attr (by k_asm) (by k_asm) (by exact rfl) (by exact rfl) (by exact rfl) ?_ (fun h' tk o' kvs hd' g1 g2 g3 F' N' => ?_)))
  k_with "compareOp IsNot" => (k_here; (refine isnot_att (by assumption) (by first | exact .inl rfl | exact .inr ⟨_, rfl⟩) ?_))
  k_with "compareOp Is" => (k_here; (refine is_att (by assumption) (by first | exact .inl rfl | exact .inr ⟨_, rfl⟩) ?_))
  k_with "setItem ref bytes" => (k_here; k_dflt (refine' kda_set (knd := bytesKind _ _) (by k_asm) (by k_asm) (by first | k_updF | exact UpdF.head (fun q hq => Nat.ne_of_lt (kst_ltOf (by assumption) q hq))) (by k_asm) bytes_is (by rw [sizeLine_eq]; exact Nat.le_of_ble_eq_true (by with_unfolding_all rfl)) ?_); intro h' o' F' N' hd'; (try dsimp only at N'))
  k_with "m_attr" => ((rename News _ _ _ _ => N9); (rename Fr _ _ _ _ => F9); (rename Obj.IsDictOf _ _ _ => hd9); refine EndAttr.intro F9 N9 hd9 (by first | rfl | exact none_of' (by assumption)) (by first | exact none_of' (by assumption) | rfl) (by first | rfl | exact none_of' (by assumption)))
  k_with "compareOp NotEq str str" => (k_here; k_dflt (refine ne_same_str ?_))
  k_with "call ref" => (k_here; (with_reducible show wpAny _ _ (call (Value.ref 73) [Value.str _ _, Value.bytes (List.toArray _) _, _]) _ _ _); k_dflt (refine' c_filter_any (by k_asm) (by k_asm) (by k_asm) (by k_asm) (by k_asm) (by exact rfl) (by decide) (by decide) (fun hb h' tk' F' N' => ?_) (fun hb x dx k1 k2 k3 k4 k5 k6 h' tk' F' N' => ?_)); all_goals ((try dsimp only); (try k_fold)))
  k_with "compareOp Eq str str" => (k_here; (refine eq_strB (by first | assumption | exact rfl) ?_))
  k_with "exec Assign cons BoolOp" => (k_here; (with_reducible show wpAny _ _ (exec (Stmt.Assign [Expr.Name (PySem.Str.ofString "guess") _] _ _) _) _ _ _); (fail_if_success (with_reducible show wpAny _ _ _ (EndP _ _ _ _ _ _ _) _ _)); k_dflt (refine cut_guess (by k_asm) (by k_asm) (by exact rfl) ?_ ?_); (try k_fold); (rotate_left; intro h' tk M9 NX9 F' N'; rotate_right))
  k_with "exec Assign cons BoolOp" => (k_here; (with_reducible show wpAny _ _ (exec (Stmt.Assign [Expr.Name (PySem.Str.ofString "out") _] _ _) _) _ _ _); (fail_if_success (with_reducible show wpAny _ _ _ (EndP _ _ _ _ _ _ _) _ _)); k_dflt (refine cut_out (by k_asm) (by k_asm) (by exact rfl) ?_ ?_); (try k_fold); (rotate_left; intro h' tk M9 NX9 F' N'; rotate_right))
  k_with "exec Assign cons BoolOp" => (k_here; (with_reducible show wpAny _ _ (exec (Stmt.Assign [Expr.Name (PySem.Str.ofString "still") _] (Expr.BoolOp _ [_, _] _) _) _) _ _ _); (fail_if_success (with_reducible show wpAny _ _ _ (EndP _ _ _ _ _ _ _) _ _)); k_dflt (refine cut_still1 (by k_asm) (by k_asm) (by exact rfl) (by exact rfl) (by exact rfl) (by exact rfl) ?_ ?_ ?_); (try k_fold); (rotate_left; intro hS h' tk M9 NX9 F' N'; rotate_left; intro hS h' tk M9 NX9 F' N'; rotate_left))
  k_with "exec Assign cons BoolOp" => (k_here; (with_reducible show wpAny _ _ (exec (Stmt.Assign [Expr.Name (PySem.Str.ofString "still") _] (Expr.BoolOp _ [_, _, _] _) _) _) _ _ _); (fail_if_success (with_reducible show wpAny _ _ _ (EndP _ _ _ _ _ _ _) _ _)); k_dflt (refine cut_still2 (by k_asm) (by k_asm) (by exact rfl) (by exact rfl) (by exact rfl) (by exact rfl) ?_ ?_ ?_); (try k_fold); (rotate_left; intro hS h' tk M9 NX9 F' N'; rotate_left; intro hS h' tk M9 NX9 F' N'; rotate_left))
  k_with "exec Assign cons BoolOp" => (k_here; (with_reducible show wpAny _ _ (exec (Stmt.Assign [Expr.Name (PySem.Str.ofString "refused") _] _ _) _) _ _ _); (fail_if_success (with_reducible show wpAny _ _ _ (EndP _ _ _ _ _ _ _) _ _)); k_dflt (refine cut_refused (by k_asm) (by k_asm) (by exact rfl) (by exact rfl) (by exact rfl) ?_ ?_ ?_); (try k_fold); (rotate_left; intro hR h' tk M9 NX9 F' N'; rotate_left; intro hR h' tk M9 NX9 F' N'; rotate_left); (all_goals (try (exact absurd (by assumption) ref_no))))
  k_with "m_bools" => (first | exact lr1 | exact lg1 (by assumption) | exact lg2 (by assumption) | exact lo1 (by assumption) | exact lo2 (by assumption) | exact ls1 (by assumption) | exact ls2 (by assumption) (by assumption) (by assumption) | exact ls3 (by assumption) (by assumption) (by assumption) | exact ls4 (by assumption) (by assumption) | exact lr2 (by assumption) (by assumption) (by assumption) | exact lr3 (by assumption) (by assumption) (by assumption) | exact lr4 (by assumption) (by assumption) | exact lr5 (by assumption) | exact lt1 (by assumption) | exact lt2 (by assumption) (by assumption) | exact lt3 (by assumption) (by assumption) (by assumption) | exact lt4 (by assumption) (by assumption) (by assumption))
  k_with "call ref" => (k_here; (with_reducible show wpAny _ _ (call (Value.ref 96) [Value.ref _, Value.bytes (List.toArray _) _]) _ _ _); k_dflt (refine' c_clean_law (by k_asm) (by k_asm) (by k_asm) (by k_asm) (by k_asm) (by exact rfl) (by decide) (by decide) (by (simp only [List.length_append, lead_len]; omega)) (by k_mem) (by k_mem) (by assumption) (by assumption) (by assumption) (by assumption) (by assumption) (fun e1 h' tk' t' F' N' => ?_) (fun e1 e2 h' tk' t' F' N' => ?_) (fun e1 e2 g₂ h' tk' e' F₂ R' U' => ?_)); all_goals (first | (exact absurd e1 (by decide)) | (exact absurd e2 (by decide)) | ((try dsimp only); (try k_fold))))
  k_with "call ref" => (k_here; (with_reducible show wpAny _ _ (call (Value.ref 104) [Value.ref _, Value.bytes (List.toArray _) _]) _ _ _); k_dflt (refine' c_smudge_law (by k_asm) (by k_asm) (by k_asm) (by k_asm) (by k_asm) (by exact rfl) (by decide) (by decide) (by (simp only [List.length_append, lead_len]; omega)) (by k_mem) (by k_mem) (by assumption) (by assumption) (by assumption) (fun e1 h' tk' t' F' N' => ?_) (fun e1 h' tk' t' F' N' => ?_)); all_goals (first | (exact absurd e1 (by decide)) | ((try dsimp only); (try k_fold))))
  k_with "exec Try" => (k_here; refine wpAny_Try_except ?_)
  k_with "m_body" => ((rename News _ _ _ _ => N9); (rename Fr _ _ _ _ => F9); refine EndBody.intro F9 N9 (by first | exact fun _ hp => hp | exact fun _ hp => .tail _ hp) (by with_unfolding_all rfl) (by simp only [List.length_append, List.length_cons, List.length_nil]; omega) (fun z h1 h2 => by first | rfl | exact (if_neg h1).trans (if_neg h2) | exact (if_neg h2).trans (if_neg h1) | exact (if_neg h2).trans ((if_neg h1).trans (if_neg h2)) | exact (if_neg h2).trans ((if_neg h2).trans (if_neg h1)) | simp only [h1, h2, if_false]))
  k_with "m_turn" => ((rename News _ _ _ _ => N9); (rename Fr _ _ _ _ => F9); refine EndTurn.intro F9 N9 (by intro q hq; repeat (first | exact hq | refine List.Mem.tail _ ?_)) ?_; intro z h1 h2; (repeat (refine (if_neg (peel h2 (by rfl))).trans ?_)); (refine (if_neg h1).trans ?_); (refine (if_neg (peel_in h2)).trans ?_); rfl)
  k_with "m_close" => (first | walk_at "m_body" | walk_at "m_turn" | walk_at "m_attr" | (walk_at "m_endp"; first | walk_at "m_bools" | walk_at "m_lead" | walk_at "m_bin" | exact isInt_mk _ _))
  k_go0
  all_goals (with_reducible show wpAny _ _ _ _ _ _)
  all_goals k_fold
  k_steps
  all_goals (try walk_at "m_close")
  all_goals w_report)
end
end Mine
end
theorem PySem.Challenge.cw_iy0006_01_holds : PySem.Challenge.rw_iy0006_01.Holds := by
  exact Mine.holds

import PyProof.Rows.All
import Wide.All
import OpenK.AllK
import Wide.FinOn
import PySem.Challenge.RW_jg0022_01
open PySem PySem.W PyProof.Rows
set_option Elab.async false

/-! PART 1: the plain laws, over lists of octets -/
namespace Mine
open PySem PySem.W Builtin

/-! the two plain turns, as walks over lists -/
def shortL : List UInt8 → List UInt8
  | [] => []
  | c :: r => if c = 13 ∧ r.head? = some 10 then shortL r else c :: shortL r
def longL : UInt8 → List UInt8 → List UInt8
  | _, [] => []
  | p, c :: r => if c = 10 ∧ p ≠ 13 then 13 :: 10 :: longL c r else c :: longL c r

theorem shortL_length : ∀ l : List UInt8, (shortL l).length ≤ l.length
  | [] => Nat.le_refl _
  | c :: r => by
    have := shortL_length r
    unfold shortL
    split
    · simp only [List.length_cons]; omega
    · simp only [List.length_cons]; omega
theorem longL_length : ∀ (l : List UInt8) (p : UInt8), (longL p l).length ≤ 2 * l.length
  | [], _ => by simp [longL]
  | c :: r, p => by
    have := longL_length r c
    unfold longL
    split
    · simp only [List.length_cons]; omega
    · simp only [List.length_cons]; omega

theorem shortL_append (c : UInt8) (r : List UInt8) (hc : c ≠ 10) : ∀ a : List UInt8, shortL (a ++ c :: r) = shortL a ++ shortL (c :: r)
  | [] => rfl
  | d :: a => by
    have ih := shortL_append c r hc a
    show (if d = 13 ∧ (a ++ c :: r).head? = some 10 then shortL (a ++ c :: r) else d :: shortL (a ++ c :: r)) = (if d = 13 ∧ a.head? = some 10 then shortL a else d :: shortL a) ++ shortL (c :: r)
    have e : (d = 13 ∧ (a ++ c :: r).head? = some 10) ↔ (d = 13 ∧ a.head? = some 10) := by
      cases a with
      | nil => simp [hc]
      | cons x a => simp
    by_cases h : d = 13 ∧ a.head? = some 10
    · rw [if_pos h, if_pos (e.mpr h), ih]
    · rw [if_neg h, if_neg fun q => h (e.mp q), ih]; rfl
theorem shortL_row (x : UInt8) (t : List UInt8) (hx : x ≠ 13) : ∀ n : Nat, shortL (List.replicate n x ++ t) = List.replicate n x ++ shortL t
  | 0 => rfl
  | n + 1 => by
    have ih := shortL_row x t hx n
    show (if x = 13 ∧ (List.replicate n x ++ t).head? = some 10 then shortL (List.replicate n x ++ t) else x :: shortL (List.replicate n x ++ t)) = x :: (List.replicate n x ++ shortL t)
    rw [if_neg fun q => hx q.1, ih]
theorem short_all (h t : List UInt8) (x : UInt8) (n : Nat) (hn : 0 < n) (h10 : x ≠ 10) (h13 : x ≠ 13) : shortL (h ++ List.replicate n x ++ t) = shortL h ++ List.replicate n x ++ shortL t := by
  obtain ⟨k, rfl⟩ : ∃ k, n = k + 1 := ⟨n - 1, by omega⟩
  rw [List.append_assoc, List.replicate_succ, List.cons_append, shortL_append x _ h10, ← List.cons_append, ← List.replicate_succ, shortL_row x t h13, List.append_assoc]

theorem longL_append (c : UInt8) (r : List UInt8) (hc : c ≠ 10) : ∀ (a : List UInt8) (p : UInt8), longL p (a ++ c :: r) = longL p a ++ c :: longL c r
  | [], p => by
    show (if c = 10 ∧ p ≠ 13 then 13 :: 10 :: longL c r else c :: longL c r) = c :: longL c r
    rw [if_neg fun q => hc q.1]
  | d :: a, p => by
    have ih := longL_append c r hc a d
    show (if d = 10 ∧ p ≠ 13 then 13 :: 10 :: longL d (a ++ c :: r) else d :: longL d (a ++ c :: r)) = (if d = 10 ∧ p ≠ 13 then 13 :: 10 :: longL d a else d :: longL d a) ++ c :: longL c r
    rw [ih]
    by_cases h : d = 10 ∧ p ≠ 13
    · rw [if_pos h, if_pos h]; rfl
    · rw [if_neg h, if_neg h]; rfl
theorem longL_prev (p q : UInt8) (hp : p ≠ 13) (hq : q ≠ 13) (l : List UInt8) : longL p l = longL q l := by
  cases l with
  | nil => rfl
  | cons c r =>
    show (if c = 10 ∧ p ≠ 13 then 13 :: 10 :: longL c r else c :: longL c r) = (if c = 10 ∧ q ≠ 13 then 13 :: 10 :: longL c r else c :: longL c r)
    by_cases h : c = 10
    · rw [if_pos ⟨h, hp⟩, if_pos ⟨h, hq⟩]
    · rw [if_neg fun z => h z.1, if_neg fun z => h z.1]
theorem longL_row (x : UInt8) (t : List UInt8) (hx : x ≠ 10) : ∀ n : Nat, longL x (List.replicate n x ++ t) = List.replicate n x ++ longL x t
  | 0 => rfl
  | n + 1 => by
    have ih := longL_row x t hx n
    show (if x = 10 ∧ x ≠ 13 then 13 :: 10 :: longL x (List.replicate n x ++ t) else x :: longL x (List.replicate n x ++ t)) = x :: (List.replicate n x ++ longL x t)
    rw [if_neg fun q => hx q.1, ih]
theorem long_all (h t : List UInt8) (x : UInt8) (n : Nat) (hn : 0 < n) (h10 : x ≠ 10) (h13 : x ≠ 13) : longL 0 (h ++ List.replicate n x ++ t) = longL 0 h ++ List.replicate n x ++ longL 0 t := by
  obtain ⟨k, rfl⟩ : ∃ k, n = k + 1 := ⟨n - 1, by omega⟩
  rw [List.append_assoc, List.replicate_succ, List.cons_append, longL_append x _ h10, longL_row x t h10, longL_prev x 0 h13 (by decide) t, List.append_assoc]
  rfl

/-! occurrences, between, joined as recursions -/
def occL (b sub : Array UInt8) : Nat → Nat → Nat → List Nat
  | 0, _, _ => []
  | k + 1, i, nx => if (decide (i ≥ nx) && b.extract i (i + sub.size) == sub) = true then i :: occL b sub k (i + 1) (i + sub.size) else occL b sub k (i + 1) nx
theorem occ_fold (b sub : Array UInt8) : ∀ (k i nx : Nat) (acc : List Nat),
    ((List.range' i k).foldl (fun (acc : List Nat × Nat) i => if (decide (i ≥ acc.2) && b.extract i (i + sub.size) == sub) = true then (i :: acc.1, i + sub.size) else acc) (acc, nx)).1.reverse = acc.reverse ++ occL b sub k i nx
  | 0, i, nx, acc => by simp [occL]
  | k + 1, i, nx, acc => by
    rw [List.range'_succ, List.foldl_cons]
    unfold occL
    by_cases h : (decide (i ≥ nx) && b.extract i (i + sub.size) == sub) = true
    · rw [if_pos h, if_pos h, occ_fold b sub k (i + 1) (i + sub.size) (i :: acc)]
      simp
    · rw [if_neg h, if_neg h, occ_fold b sub k (i + 1) nx acc]
theorem occ_eq (b sub : Array UInt8) : Bytes.occurrences b sub 0 b.size = occL b sub (b.size + 1 - sub.size) 0 0 := by
  unfold Bytes.occurrences
  have e : (List.range (b.size + 1 - (0 + sub.size))).map (· + 0) = List.range' 0 (b.size + 1 - sub.size) := by
    rw [Nat.zero_add, List.range_eq_range']
    simp
  rw [e]
  have h := occ_fold b sub (b.size + 1 - sub.size) 0 0 []
  simpa using h
theorem occL_length (b sub : Array UInt8) : ∀ k i nx, (occL b sub k i nx).length ≤ k
  | 0, _, _ => Nat.le_refl _
  | k + 1, i, nx => by
    unfold occL
    split
    · have := occL_length b sub k (i + 1) (i + sub.size)
      simp only [List.length_cons]; omega
    · have := occL_length b sub k (i + 1) nx
      omega

def partsL (b : List UInt8) (w : Nat) : Nat → List Nat → List (List UInt8)
  | last, [] => [b.drop last]
  | last, p :: ps => (b.drop last).take (p - last) :: partsL b w (p + w) ps
theorem extract_list (b : Array UInt8) (i j : Nat) : (b.extract i j) = ((b.toList.drop i).take (j - i)).toArray := by
  apply Array.ext'
  simp [Array.toList_extract, List.extract]
theorem between_fold (b : Array UInt8) (w : Nat) : ∀ (places : List Nat) (parts : Array (Array UInt8)) (last : Nat),
    (let r := places.foldl (fun (x : Array (Array UInt8) × Nat) p => (x.1.push (b.extract x.2 p), p + w)) (parts, last); (r.1.push (b.extract r.2 b.size)).toList) = parts.toList ++ (partsL b.toList w last places).map List.toArray
  | [], parts, last => by
    simp only [List.foldl_nil, Array.toList_push, partsL, List.map_cons, List.map_nil]
    rw [extract_list]
    congr 3
    exact List.take_of_length_le (by simp)
  | p :: ps, parts, last => by
    rw [List.foldl_cons]
    have ih := between_fold b w ps (parts.push (b.extract last p)) (p + w)
    dsimp only at ih ⊢
    rw [ih]
    simp only [partsL, Array.toList_push, List.map_cons, List.append_assoc, List.cons_append, List.nil_append]
    rw [extract_list]
theorem between_eq (b : Array UInt8) (w : Nat) (places : List Nat) : Bytes.between b w places = (partsL b.toList w 0 places).map List.toArray := by
  have h := between_fold b w places #[] 0
  simpa [Bytes.between] using h

def joinL (sep : List UInt8) : List (List UInt8) → List UInt8
  | [] => []
  | [p] => p
  | p :: q :: r => p ++ sep ++ joinL sep (q :: r)
theorem joined_fold (sep : Array UInt8) : ∀ (ps : List (List UInt8)) (i : Nat) (out : Array UInt8), 0 < i →
    ((ps.map List.toArray).zipIdx i).foldl (fun (out : Array UInt8) (x : Array UInt8 × Nat) => (if x.2 > 0 then out ++ sep else out) ++ x.1) out = out ++ (ps.flatMap fun p => sep.toList ++ p).toArray
  | [], i, out, _ => by simp
  | p :: ps, i, out, hi => by
    simp only [List.map_cons, List.zipIdx_cons, List.foldl_cons]
    rw [if_pos hi, joined_fold sep ps (i + 1) _ (by omega)]
    apply Array.ext'
    simp
theorem joinL_flat (sep : List UInt8) : ∀ (ps : List (List UInt8)) (p : List UInt8), joinL sep (p :: ps) = p ++ ps.flatMap fun q => sep ++ q
  | [], p => by simp [joinL]
  | q :: ps, p => by
    show p ++ sep ++ joinL sep (q :: ps) = _
    rw [joinL_flat sep ps q]
    simp
theorem joined_eq (sep : Array UInt8) (ps : List (List UInt8)) : Bytes.joined sep (ps.map List.toArray) = (joinL sep.toList ps).toArray := by
  cases ps with
  | nil => rfl
  | cons p ps =>
    have h := joined_fold sep ps 1 (#[] ++ p.toArray) (by omega)
    rw [joinL_flat]
    unfold Bytes.joined
    simp only [List.map_cons, List.zipIdx_cons, List.foldl_cons]
    rw [if_neg (Nat.lt_irrefl 0)]
    refine Eq.trans h ?_
    apply Array.ext'
    simp

/-! what lies at a place -/
theorem at_two (b : Array UInt8) (i : Nat) (x y : UInt8) : (b.extract i (i + 2) == #[x, y]) = true ↔ ∃ r, b.toList.drop i = x :: y :: r := by
  rw [extract_list, show i + 2 - i = 2 by omega, beq_iff_eq]
  constructor
  · intro h
    have h' := congrArg Array.toList h
    simp only at h'
    match hd : b.toList.drop i with
    | [] => rw [hd] at h'; cases h'
    | [c] => rw [hd] at h'; cases h'
    | c :: d :: r =>
      rw [hd] at h'
      simp at h'
      exact ⟨r, by rw [h'.1, h'.2]⟩
  · rintro ⟨r, h⟩
    rw [h]
    rfl
theorem at_one (b : Array UInt8) (i : Nat) (x : UInt8) : (b.extract i (i + 1) == #[x]) = true ↔ ∃ r, b.toList.drop i = x :: r := by
  rw [extract_list, show i + 1 - i = 1 by omega, beq_iff_eq]
  constructor
  · intro h
    have h' := congrArg Array.toList h
    simp only at h'
    match hd : b.toList.drop i with
    | [] => rw [hd] at h'; cases h'
    | c :: r =>
      rw [hd] at h'
      simp at h'
      exact ⟨r, by rw [h']⟩
  · rintro ⟨r, h⟩
    rw [h]
    rfl

/-! CRLF turned to LF -/
theorem parts_head (b : List UInt8) (w last i : Nat) (ps : List Nat) (sep : List UInt8) : joinL sep (partsL b w last (i :: ps)) = (b.drop last).take (i - last) ++ sep ++ joinL sep (partsL b w (i + w) ps) := by
  cases ps <;> rfl
theorem take_next (b : List UInt8) (last i : Nat) (c : UInt8) (r : List UInt8) (hl : last ≤ i) (h : b.drop i = c :: r) : (b.drop last).take (i + 1 - last) = (b.drop last).take (i - last) ++ [c] := by
  have e : (b.drop last).drop (i - last) = c :: r := by
    rw [List.drop_drop, show last + (i - last) = i by omega, h]
  rw [show i + 1 - last = (i - last) + 1 by omega, List.take_add_one]
  have e2 : (b.drop last)[i - last]? = some c := by
    have := congrArg List.head? e
    rw [List.head?_drop] at this
    simpa using this
  rw [e2]; rfl
theorem short_scan (b : Array UInt8) : ∀ (n k i last : Nat), k ≤ n → last ≤ i → i + k = b.size - 1 →
    joinL [10] (partsL b.toList 2 last (occL b #[13, 10] k i last)) = (b.toList.drop last).take (i - last) ++ shortL (b.toList.drop i) := by
  intro n
  induction n with
  | zero =>
    intro k i last hk hl hs
    have hk0 : k = 0 := by omega
    subst hk0
    show b.toList.drop last = _
    have hlen : (b.toList.drop i).length ≤ 1 := by rw [List.length_drop, Array.length_toList]; omega
    have e : shortL (b.toList.drop i) = b.toList.drop i := by
      match b.toList.drop i, hlen with
      | [], _ => rfl
      | [c], _ =>
        show (if c = 13 ∧ ([] : List UInt8).head? = some 10 then shortL [] else c :: shortL []) = [c]
        rw [if_neg (by simp)]; rfl
    rw [e]
    have := List.take_append_drop (i - last) (b.toList.drop last)
    rw [List.drop_drop, show last + (i - last) = i by omega] at this
    exact this.symm
  | succ n ih =>
    intro k i last hk hl hs
    cases k with
    | zero => exact ih 0 i last (Nat.zero_le _) hl hs
    | succ k =>
      unfold occL
      by_cases hm : (decide (i ≥ last) && b.extract i (i + (#[13, 10] : Array UInt8).size) == #[13, 10]) = true
      · rw [if_pos hm]
        have hm2 := (Bool.and_eq_true_iff.mp hm).2
        rw [show (#[13, 10] : Array UInt8).size = 2 from rfl, at_two] at hm2
        obtain ⟨r, hr⟩ := hm2
        rw [parts_head]
        have e2 : b.toList.drop (i + 2) = r := by
          rw [← List.drop_drop, hr]; rfl
        have es : shortL (b.toList.drop i) = 10 :: shortL r := by
          rw [hr]
          show (if (13 : UInt8) = 13 ∧ (10 :: r).head? = some 10 then shortL (10 :: r) else 13 :: shortL (10 :: r)) = _
          rw [if_pos ⟨rfl, rfl⟩]
          show (if (10 : UInt8) = 13 ∧ r.head? = some 10 then shortL r else 10 :: shortL r) = _
          rw [if_neg fun q => absurd q.1 (by decide)]
        rw [es]
        show _ ++ [10] ++ joinL [10] (partsL b.toList 2 (i + 2) (occL b #[13, 10] k (i + 1) (i + 2))) = _
        have tail : joinL [10] (partsL b.toList 2 (i + 2) (occL b #[13, 10] k (i + 1) (i + 2))) = shortL r := by
          cases k with
          | zero =>
            show b.toList.drop (i + 2) = _
            have : (b.toList.drop (i + 2)).length = 0 := by rw [List.length_drop, Array.length_toList]; omega
            rw [e2] at this ⊢
            rw [List.length_eq_zero_iff.mp this]; rfl
          | succ k =>
            have eo : occL b #[13, 10] (k + 1) (i + 1) (i + 2) = occL b #[13, 10] k (i + 2) (i + 2) := by
              conv => lhs; unfold occL
              rw [if_neg]
              simp only [Bool.and_eq_true, decide_eq_true_eq]
              omega
            rw [eo, ih k (i + 2) (i + 2) (by omega) (Nat.le_refl _) (by omega), Nat.sub_self, e2]
            rfl
        rw [tail, List.append_assoc]
        rfl
      · rw [if_neg hm]
        rw [ih k (i + 1) last (by omega) (by omega) (by omega)]
        have hlt : i < b.toList.length := by rw [Array.length_toList]; omega
        obtain ⟨c, r, hr⟩ : ∃ c r, b.toList.drop i = c :: r := by
          cases hd : b.toList.drop i with
          | nil => have := congrArg List.length hd; rw [List.length_drop] at this; simp only [List.length_nil] at this; omega
          | cons c r => exact ⟨c, r, rfl⟩
        have e1 : b.toList.drop (i + 1) = r := by rw [← List.drop_drop, hr]; rfl
        have hno : ¬ (c = 13 ∧ r.head? = some 10) := by
          rintro ⟨rfl, h10⟩
          apply hm
          rw [Bool.and_eq_true_iff]
          refine ⟨decide_eq_true hl, ?_⟩
          rw [show (#[13, 10] : Array UInt8).size = 2 from rfl, at_two]
          cases r with
          | nil => cases h10
          | cons d r => exact ⟨r, by rw [hr, Option.some.inj h10]⟩
        have es : shortL (b.toList.drop i) = c :: shortL r := by
          rw [hr]
          show (if c = 13 ∧ r.head? = some 10 then shortL r else c :: shortL r) = _
          rw [if_neg hno]
        rw [es, e1, take_next _ _ _ c r hl hr]
        simp
/-- b.replace(CRLF, LF) -/
theorem rep_short (b : Array UInt8) : (if (Bytes.occurrences b #[13, 10] 0 b.size).isEmpty = true then b else Bytes.joined #[10] (Bytes.between b 2 (Bytes.occurrences b #[13, 10] 0 b.size))) = (shortL b.toList).toArray := by
  have h := short_scan b (b.size + 1 - 2) (b.size + 1 - 2) 0 0 (Nat.le_refl _) (Nat.le_refl _) (by omega)
  rw [occ_eq, show (#[13, 10] : Array UInt8).size = 2 from rfl]
  rw [between_eq, joined_eq]
  have h' : joinL [10] (partsL b.toList 2 0 (occL b #[13, 10] (b.size + 1 - 2) 0 0)) = shortL b.toList := by simpa using h
  by_cases he : (occL b #[13, 10] (b.size + 1 - 2) 0 0).isEmpty = true
  · rw [if_pos he]
    rw [List.isEmpty_iff.mp he] at h'
    rw [← h']
    show b = (b.toList.drop 0).toArray
    simp
  · rw [if_neg he]
    show (joinL [10] _).toArray = _
    rw [h']

/-! LF turned to CRLF -/
def splitL : List UInt8 → List (List UInt8)
  | [] => [[]]
  | c :: r => if c = 10 then [] :: splitL r else match splitL r with
    | h :: t => (c :: h) :: t
    | [] => [[c]]
def preL (a : List UInt8) : List (List UInt8) → List (List UInt8)
  | [] => [a]
  | h :: t => (a ++ h) :: t
theorem splitL_ne : ∀ l : List UInt8, splitL l ≠ []
  | [] => by simp [splitL]
  | c :: r => by
    unfold splitL
    split
    · simp
    · split <;> simp
theorem preL_split (a : List UInt8) (c : UInt8) (r : List UInt8) (hc : c ≠ 10) : preL a (splitL (c :: r)) = preL (a ++ [c]) (splitL r) := by
  show preL a (if c = 10 then [] :: splitL r else match splitL r with | h :: t => (c :: h) :: t | [] => [[c]]) = _
  rw [if_neg hc]
  cases hs : splitL r with
  | nil => exact absurd hs (splitL_ne r)
  | cons h t => show (a ++ c :: h) :: t = (a ++ [c] ++ h) :: t; simp
theorem split_scan (b : Array UInt8) : ∀ (k i last : Nat), last ≤ i → i + k = b.size →
    partsL b.toList 1 last (occL b #[10] k i last) = preL ((b.toList.drop last).take (i - last)) (splitL (b.toList.drop i)) := by
  intro k
  induction k with
  | zero =>
    intro i last hl hs
    have e : b.toList.drop i = [] := List.drop_of_length_le (by rw [Array.length_toList]; omega)
    rw [e]
    show [b.toList.drop last] = [(b.toList.drop last).take (i - last) ++ []]
    rw [List.append_nil, List.take_of_length_le (by rw [List.length_drop, Array.length_toList]; omega)]
  | succ k ih =>
    intro i last hl hs
    have hlt : i < b.toList.length := by rw [Array.length_toList]; omega
    obtain ⟨c, r, hr⟩ : ∃ c r, b.toList.drop i = c :: r := by
      cases hd : b.toList.drop i with
      | nil => have := congrArg List.length hd; rw [List.length_drop] at this; simp only [List.length_nil] at this; omega
      | cons c r => exact ⟨c, r, rfl⟩
    have e1 : b.toList.drop (i + 1) = r := by rw [← List.drop_drop, hr]; rfl
    unfold occL
    by_cases hm : (decide (i ≥ last) && b.extract i (i + (#[10] : Array UInt8).size) == #[10]) = true
    · rw [if_pos hm]
      have hm2 := (Bool.and_eq_true_iff.mp hm).2
      rw [show (#[10] : Array UInt8).size = 1 from rfl, at_one] at hm2
      obtain ⟨r', hr'⟩ := hm2
      rw [hr] at hr'
      obtain ⟨rfl, rfl⟩ := List.cons.inj hr'
      show (b.toList.drop last).take (i - last) :: partsL b.toList 1 (i + 1) (occL b #[10] k (i + 1) (i + 1)) = _
      rw [ih (i + 1) (i + 1) (Nat.le_refl _) (by omega), Nat.sub_self, e1, hr]
      show _ :: preL [] (splitL r) = preL _ ([] :: splitL r)
      have e2 : preL [] (splitL r) = splitL r := by
        cases hs : splitL r with
        | nil => exact absurd hs (splitL_ne r)
        | cons h t => rfl
      rw [e2]
      show _ = (_ ++ []) :: splitL r
      rw [List.append_nil]
    · rw [if_neg hm]
      have hc : c ≠ 10 := by
        rintro rfl
        apply hm
        rw [Bool.and_eq_true_iff]
        refine ⟨decide_eq_true hl, ?_⟩
        rw [show (#[10] : Array UInt8).size = 1 from rfl, at_one]
        exact ⟨r, hr⟩
      rw [ih (i + 1) last (by omega) (by omega), take_next _ _ _ c r hl hr, hr, preL_split _ c r hc, e1]
/-- b.split(LF) -/
theorem split_eq (b : Array UInt8) : Bytes.between b 1 (Bytes.occurrences b #[10] 0 b.size) = (splitL b.toList).map List.toArray := by
  rw [between_eq, occ_eq, show (#[10] : Array UInt8).size = 1 from rfl, split_scan b (b.size + 1 - 1) 0 0 (Nat.le_refl _) (by omega)]
  congr 1
  show preL [] (splitL b.toList) = _
  cases hs : splitL b.toList with
  | nil => exact absurd hs (splitL_ne _)
  | cons h t => rfl

def strip1 (p : List UInt8) : List UInt8 := if p.getLast? = some 13 then p.dropLast else p
/-- all but the last lose a CR at their end -/
def cleanL : List (List UInt8) → List (List UInt8)
  | [] => []
  | [p] => [p]
  | p :: q :: r => strip1 p :: cleanL (q :: r)
theorem clean_long : ∀ (l a : List UInt8) (p : UInt8), (p = 13 ↔ a.getLast? = some 13) → joinL [13, 10] (cleanL (preL a (splitL l))) = a ++ longL p l
  | [], a, p, _ => by simp [splitL, preL, cleanL, joinL, longL]
  | c :: r, a, p, hp => by
    by_cases hc : c = 10
    · subst hc
      have ih := clean_long r [] 10 (by simp)
      have e : splitL (10 :: r) = [] :: splitL r := by
        simp [splitL]
      rw [e]
      show joinL [13, 10] (cleanL ((a ++ []) :: splitL r)) = _
      rw [List.append_nil]
      cases hs : splitL r with
      | nil => exact absurd hs (splitL_ne r)
      | cons h t =>
        rw [hs] at ih
        have ih' : joinL [13, 10] (cleanL (h :: t)) = longL 10 r := by simpa [preL] using ih
        have hne : ∃ y ys, cleanL (h :: t) = y :: ys := by
          cases t with
          | nil => exact ⟨_, _, rfl⟩
          | cons => exact ⟨_, _, rfl⟩
        obtain ⟨y, ys, hy⟩ := hne
        show joinL [13, 10] (strip1 a :: cleanL (h :: t)) = _
        rw [hy] at ih' ⊢
        show strip1 a ++ [13, 10] ++ joinL [13, 10] (y :: ys) = _
        rw [ih']
        show _ = a ++ (if (10 : UInt8) = 10 ∧ p ≠ 13 then 13 :: 10 :: longL 10 r else 10 :: longL 10 r)
        unfold strip1
        by_cases h13 : a.getLast? = some 13
        · rw [if_pos h13, if_neg fun q => q.2 (hp.mpr h13)]
          obtain ⟨ys, rfl⟩ := List.getLast?_eq_some_iff.mp h13
          simp
        · rw [if_neg h13, if_pos ⟨rfl, fun q => h13 (hp.mp q)⟩]
          simp
    · rw [preL_split a c r hc, clean_long r (a ++ [c]) c (by simp)]
      show _ = a ++ (if c = 10 ∧ p ≠ 13 then 13 :: 10 :: longL c r else c :: longL c r)
      rw [if_neg fun q => hc q.1]
      simp
/-- the parts, cleaned and joined by CRLF -/
theorem join_long (b : Array UInt8) : Bytes.joined #[13, 10] ((cleanL (splitL b.toList)).map List.toArray) = (longL 0 b.toList).toArray := by
  rw [joined_eq]
  have h := clean_long b.toList [] 0 (by simp)
  have e : preL [] (splitL b.toList) = splitL b.toList := by
    cases hs : splitL b.toList with
    | nil => exact absurd hs (splitL_ne _)
    | cons h t => rfl
  rw [e] at h
  show (joinL [13, 10] _).toArray = _
  rw [h]; rfl

/-! what is asked of the octets: a zero, a CRLF -/
theorem find_none_short (b : Array UInt8) (h : (Bytes.find? b #[13, 10] 0 b.size).isSome = false) : shortL b.toList = b.toList := by
  have hf : Bytes.find? b #[13, 10] 0 b.size = none := by
    cases q : Bytes.find? b #[13, 10] 0 b.size with
    | none => rfl
    | some x => rw [q] at h; cases h
  unfold Bytes.find? at hf
  rw [List.find?_eq_none] at hf
  have key : ∀ (k i : Nat), i + k = b.size → shortL (b.toList.drop i) = b.toList.drop i := by
    intro k
    induction k with
    | zero =>
      intro i hi
      rw [List.drop_of_length_le (by rw [Array.length_toList]; omega)]; rfl
    | succ k ih =>
      intro i hi
      have hlt : i < b.toList.length := by rw [Array.length_toList]; omega
      obtain ⟨c, r, hr⟩ : ∃ c r, b.toList.drop i = c :: r := by
        cases hd : b.toList.drop i with
        | nil => have := congrArg List.length hd; rw [List.length_drop] at this; simp only [List.length_nil] at this; omega
        | cons c r => exact ⟨c, r, rfl⟩
      have e1 : b.toList.drop (i + 1) = r := by rw [← List.drop_drop, hr]; rfl
      have ih' := ih (i + 1) (by omega)
      rw [e1] at ih'
      rw [hr]
      show (if c = 13 ∧ r.head? = some 10 then shortL r else c :: shortL r) = _
      rw [if_neg, ih']
      rintro ⟨rfl, h10⟩
      cases r with
      | nil => cases h10
      | cons d r =>
        have hlen := congrArg List.length hr
        rw [List.length_drop, Array.length_toList] at hlen
        simp only [List.length_cons] at hlen
        refine hf (i + 0) (List.mem_map.mpr ⟨i, List.mem_range.mpr ?_, rfl⟩) ?_
        · show i < b.size + 1 - (0 + 2)
          omega
        · show (b.extract (i + 0) (i + 0 + 2) == #[13, 10]) = true
          rw [Nat.add_zero, at_two]
          exact ⟨r, by rw [hr, Option.some.inj h10]⟩
  simpa using key b.size 0 (by omega)

theorem find_range (b : Array UInt8) (x : UInt8) : Bytes.find? b #[x] 0 b.size = (List.range b.size).find? fun i => b.extract i (i + 1) == #[x] := by
  unfold Bytes.find?
  have e : (List.range (b.size + 1 - (0 + (#[x] : Array UInt8).size))).map (· + 0) = List.range b.size := by
    show (List.range (b.size + 1 - (0 + 1))).map (· + 0) = _
    rw [show b.size + 1 - (0 + 1) = b.size by omega]
    simp
  rw [e]
  rfl
theorem at_get (b : Array UInt8) (x : UInt8) (i : Nat) : (b.extract i (i + 1) == #[x]) = true ↔ b.toList[i]? = some x := by
  rw [at_one]
  constructor
  · rintro ⟨r, hr⟩
    have := congrArg List.head? hr
    rw [List.head?_drop] at this
    simpa using this
  · intro h
    obtain ⟨hlt, hx⟩ := List.getElem?_eq_some_iff.mp h
    exact ⟨b.toList.drop (i + 1), by rw [List.drop_eq_getElem_cons hlt, hx]⟩
theorem find_some (b : Array UInt8) (x : UInt8) : (Bytes.find? b #[x] 0 b.size).isSome = true ↔ ∃ i : Nat, b.toList[i]? = some x := by
  rw [find_range, List.find?_isSome]
  constructor
  · rintro ⟨i, _, h⟩
    exact ⟨i, (at_get b x i).mp h⟩
  · rintro ⟨i, h⟩
    obtain ⟨hlt, _⟩ := List.getElem?_eq_some_iff.mp h
    exact ⟨i, List.mem_range.mpr (by rw [← Array.length_toList]; exact hlt), (at_get b x i).mpr h⟩
theorem find_first (b : Array UInt8) (x : UInt8) (i : Nat) (h : Bytes.find? b #[x] 0 b.size = some i) : b.toList[i]? = some x ∧ ∀ j, j < i → b.toList[j]? ≠ some x := by
  rw [find_range, List.find?_range_eq_some] at h
  refine ⟨(at_get b x i).mp h.1, fun j hj hx => ?_⟩
  have h2 := h.2.2 j hj
  rw [(at_get b x j).mpr hx] at h2
  cases h2

def binB (b : Array UInt8) : Bool := (Bytes.find? (KBy.picked b none (some 8000)) #[0] 0 (KBy.picked b none (some 8000)).size).isSome
def findInt (b c : Array UInt8) : Int := match Bytes.find? b c 0 b.size with
  | some i => (i : Int)
  | none => -1
theorem picked_first (b : Array UInt8) : (KBy.picked b none (some 8000)).toList = b.toList.take 8000 := by
  rw [KBc.picked_eq]
  show ((b.toList.drop 0).take (clipAt b.size 8000 - 0)) = _
  have ec : clipAt b.size 8000 = min 8000 b.size := clipAt_nat b.size 8000
  rw [ec, List.drop_zero, Nat.sub_zero]
  by_cases h : 8000 ≤ b.size
  · rw [Nat.min_eq_left h]
  · rw [Nat.min_eq_right (by omega), List.take_of_length_le (by simp), List.take_of_length_le (by rw [Array.length_toList]; omega)]
theorem bin_eq (b : Array UInt8) : binB b = (decide (findInt b #[0] ≥ 0) && decide (findInt b #[0] < 8000)) := by
  unfold binB
  rw [Bool.eq_iff_iff, find_some, picked_first]
  have hs := find_some b 0
  unfold findInt
  cases hf : Bytes.find? b #[0] 0 b.size with
  | none =>
    rw [hf] at hs
    constructor
    · rintro ⟨i, h⟩
      rw [List.getElem?_take] at h
      split at h
      · exact absurd (hs.mpr ⟨i, h⟩) (by simp)
      · cases h
    · intro h
      simp at h
  | some i =>
    have hi := find_first b 0 i hf
    constructor
    · rintro ⟨j, h⟩
      rw [List.getElem?_take] at h
      split at h
      · rename_i hj
        have : ¬ j < i := fun q => hi.2 j q h
        simp only [Bool.and_eq_true, decide_eq_true_eq]
        omega
      · cases h
    · intro h
      simp only [Bool.and_eq_true, decide_eq_true_eq] at h
      refine ⟨i, ?_⟩
      rw [List.getElem?_take, if_pos (by omega)]
      exact hi.1

/-! sizes of the parts; the cleaned parts one by one -/
theorem splitL_mem : ∀ (l : List UInt8), ∀ p ∈ splitL l, p.length ≤ l.length
  | [], p, hp => by
    rw [List.mem_singleton.mp (show p ∈ [[]] from hp)]
    exact Nat.le_refl _
  | c :: r, p, hp => by
    have ih := splitL_mem r
    unfold splitL at hp
    split at hp
    · rcases List.mem_cons.mp hp with rfl | hp
      · exact Nat.zero_le _
      · exact Nat.le_succ_of_le (ih p hp)
    · split at hp
      · rename_i h t hs
        rcases List.mem_cons.mp hp with rfl | hp
        · have := ih h (by rw [hs]; exact List.mem_cons_self ..)
          simp only [List.length_cons]; omega
        · exact Nat.le_succ_of_le (ih p (by rw [hs]; exact List.mem_cons_of_mem _ hp))
      · rw [List.mem_singleton.mp hp]
        simp only [List.length_cons, List.length_nil]; omega
theorem splitL_length : ∀ (l : List UInt8), (splitL l).length ≤ l.length + 1
  | [] => Nat.le_refl _
  | c :: r => by
    have ih := splitL_length r
    unfold splitL
    split
    · simp only [List.length_cons]; omega
    · split
      · rename_i h t hs
        rw [hs] at ih
        simp only [List.length_cons] at ih ⊢; omega
      · simp only [List.length_cons, List.length_nil]; omega
def lens (ps : List (List UInt8)) : Nat := (ps.map List.length).sum
theorem splitL_lens : ∀ (l : List UInt8), lens (splitL l) ≤ l.length
  | [] => Nat.le_refl _
  | c :: r => by
    have ih := splitL_lens r
    unfold splitL
    split
    · simp only [lens, List.map_cons, List.sum_cons, List.length_nil, List.length_cons] at ih ⊢; omega
    · split
      · rename_i h t hs
        rw [hs] at ih
        simp only [lens, List.map_cons, List.sum_cons, List.length_cons] at ih ⊢; omega
      · simp [lens]
theorem strip1_length (p : List UInt8) : (strip1 p).length ≤ p.length := by
  unfold strip1
  split
  · simp
  · exact Nat.le_refl _
theorem cleanL_lens : ∀ (ps : List (List UInt8)), lens (cleanL ps) ≤ lens ps
  | [] => Nat.le_refl _
  | [p] => Nat.le_refl _
  | p :: q :: r => by
    have ih := cleanL_lens (q :: r)
    have h1 := strip1_length p
    show lens (strip1 p :: cleanL (q :: r)) ≤ lens (p :: q :: r)
    simp only [lens, List.map_cons, List.sum_cons] at ih ⊢
    omega
theorem cleanL_length : ∀ (ps : List (List UInt8)), (cleanL ps).length = ps.length
  | [] => rfl
  | [p] => rfl
  | p :: q :: r => by
    show (strip1 p :: cleanL (q :: r)).length = _
    rw [List.length_cons, cleanL_length (q :: r)]; rfl
theorem fold_lens : ∀ (ps : List (List UInt8)) (k : Nat), (ps.map List.toArray).foldl (fun (a : Nat) (x : Array UInt8) => a + x.size) k = k + lens ps
  | [], k => by simp [lens]
  | p :: ps, k => by
    rw [List.map_cons, List.foldl_cons, fold_lens ps]
    simp only [lens, List.map_cons, List.sum_cons, List.size_toArray]
    omega
def clAt (n j : Nat) (p : List UInt8) : List UInt8 := if j + 1 < n then strip1 p else p
theorem cleanL_get : ∀ (ps : List (List UInt8)) (j : Nat), (cleanL ps)[j]? = ps[j]?.map (clAt ps.length j)
  | [], j => by simp [cleanL]
  | [p], j => by
    cases j with
    | zero => simp [cleanL, clAt]
    | succ j => simp [cleanL]
  | p :: q :: r, j => by
    show (strip1 p :: cleanL (q :: r))[j]? = _
    cases j with
    | zero => simp [clAt]
    | succ j =>
      rw [List.getElem?_cons_succ, List.getElem?_cons_succ, cleanL_get (q :: r) j]
      congr 1
      funext x
      unfold clAt
      simp only [List.length_cons, Nat.add_lt_add_iff_right]
theorem clean_take (ps : List (List UInt8)) (j : Nat) (p : List UInt8) (h : ps[j]? = some p) : (cleanL ps).take (j + 1) = (cleanL ps).take j ++ [clAt ps.length j p] := by
  rw [List.take_add_one, cleanL_get, h]; rfl
end Mine

/-! PART 2: rules for the built-ins and for the statements -/
namespace Mine
open PySem PySem.Calls PyProof.Rows PyProof.V PySem.Spec PySem.W Builtin
set_option maxRecDepth 100000

/-! the methods of bytes: where they lie in the table -/
theorem slot_replace : Slot "bytes" "replace" "bytes.replace" :=
  .of (owner := "bytes") (n := "replace") (by rw [typeLookup_type, builtinLookup_eq_fast]; kernel_rfl) (by decide +kernel) (by decide +kernel) (by decide +kernel)
    (by first | exact .inl (by decide +kernel) | exact .inr (by decide +kernel)) (by rw [isSubtype_type]; kernel_rfl)
theorem type_replace : typeOf (.builtin "bytes.replace") = pure (.type "method_descriptor") := by show builtinType _ = _; rw [builtinType_eq_fast]; kernel_rfl
theorem entry_replace : entryFor table "bytes.replace" = some Builtin.«bytes.replace» := entryFor_of_tree (by kernel_rfl)
theorem args_replace (a b c : Value) : argsOk "bytes.replace" ⟨[a, b, c], []⟩ := by
  unfold argsOk; rw [signature?_of (id := "bytes.replace") (n := ['e', 'c', 'a', 'l', 'p', 'e', 'r']) (o := ['s', 'e', 't', 'y', 'b']) (by kernel_rfl) FB.owner_bytes]; kernel_rfl
theorem slot_split : Slot "bytes" "split" "bytes.split" :=
  .of (owner := "bytes") (n := "split") (by rw [typeLookup_type, builtinLookup_eq_fast]; kernel_rfl) (by decide +kernel) (by decide +kernel) (by decide +kernel)
    (by first | exact .inl (by decide +kernel) | exact .inr (by decide +kernel)) (by rw [isSubtype_type]; kernel_rfl)
theorem type_split : typeOf (.builtin "bytes.split") = pure (.type "method_descriptor") := by show builtinType _ = _; rw [builtinType_eq_fast]; kernel_rfl
theorem entry_split : entryFor table "bytes.split" = some Builtin.«bytes.split» := entryFor_of_tree (by kernel_rfl)
theorem args_split (a b : Value) : argsOk "bytes.split" ⟨[a, b], []⟩ := by
  unfold argsOk; rw [signature?_of (id := "bytes.split") (n := ['t', 'i', 'l', 'p', 's']) (o := ['s', 'e', 't', 'y', 'b']) (by kernel_rfl) FB.owner_bytes]; kernel_rfl
theorem slot_join : Slot "bytes" "join" "bytes.join" :=
  .of (owner := "bytes") (n := "join") (by rw [typeLookup_type, builtinLookup_eq_fast]; kernel_rfl) (by decide +kernel) (by decide +kernel) (by decide +kernel)
    (by first | exact .inl (by decide +kernel) | exact .inr (by decide +kernel)) (by rw [isSubtype_type]; kernel_rfl)
theorem type_join : typeOf (.builtin "bytes.join") = pure (.type "method_descriptor") := by show builtinType _ = _; rw [builtinType_eq_fast]; kernel_rfl
theorem entry_join : entryFor table "bytes.join" = some Builtin.«bytes.join» := entryFor_of_tree (by kernel_rfl)
theorem args_join (a b : Value) : argsOk "bytes.join" ⟨[a, b], []⟩ := by
  unfold argsOk; rw [signature?_of (id := "bytes.join") (n := ['n', 'i', 'o', 'j']) (o := ['s', 'e', 't', 'y', 'b']) (by kernel_rfl) FB.owner_bytes]; kernel_rfl
theorem slot_find : Slot "bytes" "find" "bytes.find" :=
  .of (owner := "bytes") (n := "find") (by rw [typeLookup_type, builtinLookup_eq_fast]; kernel_rfl) (by decide +kernel) (by decide +kernel) (by decide +kernel)
    (by first | exact .inl (by decide +kernel) | exact .inr (by decide +kernel)) (by rw [isSubtype_type]; kernel_rfl)
theorem type_find : typeOf (.builtin "bytes.find") = pure (.type "method_descriptor") := by show builtinType _ = _; rw [builtinType_eq_fast]; kernel_rfl
theorem entry_find : entryFor table "bytes.find" = some Builtin.«bytes.find» := entryFor_of_tree (by kernel_rfl)
theorem args_find (a b : Value) : argsOk "bytes.find" ⟨[a, b], []⟩ := by
  unfold argsOk; rw [signature?_of (id := "bytes.find") (n := ['d', 'n', 'i', 'f']) (o := ['s', 'e', 't', 'y', 'b']) (by kernel_rfl) FB.owner_bytes]; kernel_rfl
theorem look_index : typeLookup (.type "bytes") "__index__" = pure none := by rw [typeLookup_type, builtinLookup_eq_fast]; kernel_rfl
theorem sub_bytes_tuple : isSubtype (.type "bytes") (.type "tuple") = pure false := by rw [isSubtype_type]; kernel_rfl
theorem name_bytes : typeName (.type "bytes") = pure "bytes" := by kernel_rfl

/-! what the methods give -/
section
variable {prog : Program} {w : World} {A : Around} {E : Value → Shared → Prop} {s : Shared}

theorem asIndex_bytes {b : Array UInt8} {t : Tok} {Q : Int → Shared → Prop} (hh : A.handled = none)
    (h : ∀ h' tk e, Heap.NewExc s.heap h' e "TypeError" → E (.ref e) { s with heap := h', toks := tk }) : wpAny (model prog w) A (asIndex (.bytes b t)) Q E s := by
  unfold asIndex
  refine wpAny_bind (wpAny_of_eq (a := none) rfl ?_)
  show wpAny _ _ (callSpecial? (.bytes b t) "__index__" >>= _) _ _ s
  refine wpAny_bind ?_
  unfold callSpecial?
  refine wpAny_bind (wpAny_specialOf (typeIs_bytes s b t) look_index ?_)
  refine wpAny_pure ?_
  show wpAny _ _ (typeNameOfCut 200 (.bytes b t) >>= _) _ _ s
  refine wpAny_bind (wpAny_of_eq (a := "bytes") ?_ ?_)
  · kernel_rfl
  · exact_raiseError plainExc_TypeError hh h

/-- x in b, both bytes -/
theorem meets_contains (b c : Array UInt8) (t u : Tok) :
    Meets («bytes.__contains__» ⟨[.bytes b t, .bytes c u], []⟩) (fun A R s => A.handled = none ∧ ∀ h' k, (∀ a o, s.heap.get? a = some o → h'.get? a = some o) → R (.ok (.ret (.bool (Bytes.find? b c 0 b.size).isSome))) { s with heap := h', toks := k }) := by
  refine .of_wp fun prog w A R s hS => ?_
  obtain ⟨hh, h⟩ := hS
  show wpAny _ _ (Bytes.containsIn "bytes.__contains__" (.bytes b t) (.bytes c u) >>= fun r => _) _ _ s
  refine wpAny_bind ?_
  unfold Bytes.containsIn
  refine wpAny_bind (wpAny_attempt (asIndex_bytes (A := A.in1) hh fun h' tk e he => ?_))
  refine wpAny_bind (wpAny_of_eq KBy.buffer_eq ?_)
  refine wpAny_bind (wpAny_of_eq KBy.buffer_eq ?_)
  refine wpAny_bind (wpAny_rule (wpAny_pure (wpAny_pure ⟨_, rfl, h _ _ he.keeps⟩)))
theorem in_bytes {h₀ : Heap} {L : Addr} {m : PySem.Str → Option Value} {news : List (Addr × Obj)} {b c : Array UInt8} {t u : Tok} {Q : Value → Shared → Prop} (F : Fr h₀ L s.heap m) (N : News h₀ L s.heap news) (hh : A.handled = none)
    (h : ∀ h' k, Fr h₀ L h' m → News h₀ L h' news → Q (.bool (Bytes.find? b c 0 b.size).isSome) { s with heap := h', toks := k }) : wpAny (model prog w) A (compareOp .In (.bytes c u) (.bytes b t)) Q E s :=
  PySem.SeqRoads2.in_meets (typeIs_bytes s b t) FB.slot_bytes_contains FB.entry_bytes_contains (FB.args_bytes_contains_2 _ _) (meets_contains b c t u) ⟨hh, fun h' k hk => ⟨_, rfl, h h' k (F.keptAll hk) (N.grown hk)⟩⟩

/-! b.find(c) -/
theorem meets_find (b c : Array UInt8) (t u : Tok) :
    Meets («bytes.find» ⟨[.bytes b t, .bytes c u], []⟩) (fun _ R s => R (.ok (.ret (.int (findInt b c) s.toks))) { s with toks := s.toks + 1 }) := by
  refine .of_wp fun prog w A R s h => ?_
  unfold Builtin.«bytes.find» Bytes.searchM
  refine wpAny_bind ?_
  unfold Bytes.searchArgs
  refine wpAny_bind (wpAny_of_eq (a := (.bytes b t, [.bytes c u])) (by kernel_rfl) ?_)
  refine wpAny_bind (wpAny_of_eq (a := none) rfl ?_)
  refine wpAny_bind (wpAny_of_eq (a := none) rfl ?_)
  show wpAny _ _ (Bytes.buffer? _ (.bytes c u) >>= _) _ _ s
  refine wpAny_bind (wpAny_of_eq KBy.buffer_eq ?_)
  refine wpAny_bind (wpAny_of_eq (a := c) rfl ?_)
  refine wpAny_bind (wpAny_of_eq (a := b) rfl ?_)
  refine wpAny_pure ?_
  have hb : (if (b.size : Int) < 0 then max 0 ((b.size : Int) + (b.size : Int)) else (b.size : Int)) = (b.size : Int) := if_neg (by omega)
  have h0 : (if (0 : Int) < 0 then max 0 ((0 : Int) + (b.size : Int)) else (0 : Int)) = 0 := if_neg (by omega)
  dsimp only [Option.getD]
  simp only [hb, h0, Int.min_self]
  by_cases hlt : (b.size : Int) - 0 < (c.size : Int)
  · rw [if_pos hlt]
    have e0 : Bytes.find? b c 0 b.size = none := by
      unfold Bytes.find?
      rw [show b.size + 1 - (0 + c.size) = 0 by omega]
      rfl
    have ei : findInt b c = -1 := by unfold findInt; rw [e0]
    rw [ei] at h
    show wpAny _ _ (rule _ >>= fun _ => retInt (-1)) _ _ s
    refine wpAny_bind (wpAny_rule ?_)
    exact wpAny_bind (wpAny_mkInt (wpAny_pure ⟨_, rfl, h⟩))
  · rw [if_neg hlt]
    show wpAny _ _ (match Bytes.find? b c 0 b.size with
      | some i => retInt (i : Int)
      | none => rule _ >>= fun _ => retInt (-1)) _ _ s
    cases hf : Bytes.find? b c 0 b.size with
    | none =>
      have ei : findInt b c = -1 := by unfold findInt; rw [hf]
      rw [ei] at h
      refine wpAny_bind (wpAny_rule ?_)
      exact wpAny_bind (wpAny_mkInt (wpAny_pure ⟨_, rfl, h⟩))
    | some i =>
      have ei : findInt b c = (i : Int) := by unfold findInt; rw [hf]
      rw [ei] at h
      exact wpAny_bind (wpAny_mkInt (wpAny_pure ⟨_, rfl, h⟩))

/-- a list of bytes values -/
inductive BytesAre : List Value → List (Array UInt8) → Prop
  | nil : BytesAre [] []
  | cons (b : Array UInt8) (t : Tok) {vs : List Value} {bs : List (Array UInt8)} : BytesAre vs bs → BytesAre (.bytes b t :: vs) (b :: bs)
theorem BytesAre.append {vs us : List Value} {bs cs : List (Array UInt8)} (h : BytesAre vs bs) (k : BytesAre us cs) : BytesAre (vs ++ us) (bs ++ cs) := by
  induction h with
  | nil => exact k
  | cons b t _ ih => exact .cons b t ih
theorem BytesAre.length {vs : List Value} {bs : List (Array UInt8)} (h : BytesAre vs bs) : vs.length = bs.length := by
  induction h with
  | nil => rfl
  | cons b t _ ih => simp [ih]
theorem BytesAre.get {vs : List Value} {bs : List (Array UInt8)} (h : BytesAre vs bs) : ∀ (i : Nat) (v : Value), vs[i]? = some v → ∃ b t, bs[i]? = some b ∧ v = .bytes b t := by
  induction h with
  | nil => intro i v e; cases e
  | cons b t _ ih =>
    intro i v e
    cases i with
    | zero => exact ⟨b, t, rfl, (Option.some.inj e).symm⟩
    | succ i => exact ih i v e

theorem mapM_new {M : Model} : ∀ (l : List (Array UInt8)) (us : List Value) (ds : List (Array UInt8)) (s : Shared) (Q : List Value → Shared → Prop), BytesAre us.reverse ds → (∀ x ∈ l, x.size ≤ sizeLine) →
    (∀ vs k, BytesAre vs (ds ++ l) → Q vs { s with toks := k }) → wpAny M A (List.mapM.loop (Bytes.Kind.new .bytes) l us) Q E s
  | [], us, ds, s, Q, hu, _, h => by
    have h' := h us.reverse s.toks (by simpa using hu)
    exact wpAny_pure h'
  | x :: l, us, ds, s, Q, hu, hz, h => by
    show wpAny M A (Bytes.Kind.new .bytes x >>= fun v => List.mapM.loop (Bytes.Kind.new .bytes) l (v :: us)) Q E s
    refine wpAny_bind (wpAny_mkBytes ?_ (hz x (List.mem_cons_self ..)))
    refine mapM_new l _ (ds ++ [x]) _ Q (by rw [List.reverse_cons]; exact hu.append (.cons x _ .nil)) (fun y hy => hz y (List.mem_cons_of_mem _ hy)) fun vs k hv => ?_
    exact h vs k (by simpa using hv)

theorem like_eq {id : String} {b : Array UInt8} {t : Tok} : Bytes.bytesLike id (.bytes b t) = pure b := KBd.like_eq

/-- b.replace(o, n) -/
def repB (b o n : Array UInt8) : Array UInt8 := if (Bytes.occurrences b o 0 b.size).isEmpty = true then b else Bytes.joined n (Bytes.between b o.size (Bytes.occurrences b o 0 b.size))
theorem meets_replace (b o n : Array UInt8) (t u v : Tok) (ho : o.isEmpty = false) :
    Meets («bytes.replace» ⟨[.bytes b t, .bytes o u, .bytes n v], []⟩) (fun _ R s => b.size + (Bytes.occurrences b o 0 b.size).length * n.size ≤ 16777216 ∧ (repB b o n).size ≤ sizeLine ∧ ∀ t' k, R (.ok (.ret (.bytes (repB b o n) t'))) { s with toks := k }) := by
  refine .of_wp fun prog w A R s hS => ?_
  obtain ⟨hz1, hz2, h⟩ := hS
  unfold Builtin.«bytes.replace» Bytes.replaceM
  refine wpAny_bind (wpAny_of_eq (a := (.bytes b t, [.bytes o u, .bytes n v])) (by kernel_rfl) ?_)
  refine wpAny_bind (wpAny_of_eq like_eq ?_)
  refine wpAny_bind (wpAny_of_eq like_eq ?_)
  refine wpAny_bind (wpAny_of_eq (a := (-1 : Int)) rfl ?_)
  refine wpAny_bind (wpAny_of_eq like_eq ?_)
  refine wpAny_bind (wpAny_of_eq like_eq ?_)
  refine wpAny_bind (wpAny_of_eq (a := b) rfl ?_)
  simp only [ho, Bool.false_and, Bool.or_false, Bool.false_eq_true, if_false, show ((-1 : Int) < 0) = True from by decide, if_true]
  unfold repB at h hz2
  by_cases he : (Bytes.occurrences b o 0 b.size).isEmpty = true
  · rw [if_pos he] at h hz2 ⊢
    refine wpAny_bind (wpAny_rule ?_)
    exact wpAny_bind (wpAny_of_eq (a := .bytes b t) (by kernel_rfl) (wpAny_pure ⟨_, rfl, h _ _⟩))
  · rw [if_neg he] at h hz2 ⊢
    rw [if_neg (by rw [KBy.tooLong_not hz1]; exact Bool.false_ne_true)]
    exact wpAny_bind (wpAny_mkBytes (wpAny_pure ⟨_, rfl, h _ _⟩) hz2)

theorem meets_split (b o : Array UInt8) (t u : Tok) (ho : o.isEmpty = false) :
    Meets («bytes.split» ⟨[.bytes b t, .bytes o u], []⟩) (fun _ R s => b.size ≤ sizeLine ∧ (Bytes.occurrences b o 0 b.size).length < b.size + 1 ∧ (∀ x ∈ Bytes.between b o.size (Bytes.occurrences b o 0 b.size), x.size ≤ sizeLine) ∧ (Bytes.between b o.size (Bytes.occurrences b o 0 b.size)).length ≤ sizeLine ∧
      ∀ vs k, BytesAre vs (Bytes.between b o.size (Bytes.occurrences b o 0 b.size)) → R (.ok (.ret (.ref s.heap.objs.size))) { s with heap := s.heap.push { cls := .type "list", data := .seq vs.toArray }, toks := k }) := by
  refine .of_wp fun prog w A R s hS => ?_
  obtain ⟨hz1, hz2, hz3, hz4, h⟩ := hS
  unfold Builtin.«bytes.split» Bytes.splitM
  refine wpAny_bind (wpAny_of_eq (a := [some (.bytes o u), none]) (by kernel_rfl) ?_)
  refine wpAny_bind (wpAny_of_eq (a := (-1 : Int)) rfl ?_)
  refine wpAny_bind (wpAny_of_eq (a := b) rfl ?_)
  show wpAny _ _ (Bytes.bytesLike _ (.bytes o u) >>= _) _ _ s
  refine wpAny_bind (wpAny_of_eq like_eq ?_)
  have ht : List.take (if (-1 : Int) < 0 then b.size + 1 else (-1 : Int).toNat) (Bytes.occurrences b o 0 b.size) = Bytes.occurrences b o 0 b.size := by
    rw [if_pos (by decide)]
    exact List.take_of_length_le (Nat.le_of_lt hz2)
  simp only [ho, Bool.false_eq_true, if_false, ht]
  by_cases he : (Bytes.occurrences b o 0 b.size).isEmpty = true
  · rw [if_pos he]
    have e0 : Bytes.occurrences b o 0 b.size = [] := List.isEmpty_iff.mp he
    rw [e0] at h
    have e1 : Bytes.between b o.size [] = [b] := by
      show [b.extract 0 b.size] = [b]
      rw [Array.extract_size]
    rw [e1] at h
    refine wpAny_bind (wpAny_rule ?_)
    refine wpAny_bind (wpAny_of_eq (a := .bytes b t) (by kernel_rfl) ?_)
    exact wpAny_bind (wpAny_newList (wpAny_pure ⟨_, rfl, h _ _ (.cons b t .nil)⟩) (by show 1 ≤ sizeLine; decide))
  · rw [if_neg he]
    refine wpAny_bind (mapM_new _ [] [] s _ .nil hz3 fun vs k hv => ?_)
    have hl := hv.length
    exact wpAny_bind (wpAny_newList (wpAny_pure ⟨_, rfl, h _ _ hv⟩) (by rw [hl]; exact hz4))

theorem meets_endswith (b o : Array UInt8) (t u : Tok) :
    Meets («bytes.endswith» ⟨[.bytes b t, .bytes o u], []⟩) (fun _ R s => R (.ok (.ret (.bool (if b.size < o.size then false else b.extract (b.size - o.size) b.size == o)))) s) := by
  refine .of_wp fun prog w A R s h => ?_
  unfold Builtin.«bytes.endswith» Bytes.tailMatchM
  refine wpAny_bind (wpAny_of_eq (a := (.bytes b t, [.bytes o u])) (by kernel_rfl) ?_)
  refine wpAny_bind (wpAny_of_eq (a := none) rfl ?_)
  refine wpAny_bind (wpAny_of_eq (a := none) rfl ?_)
  refine wpAny_bind (wpAny_of_eq (a := b) rfl ?_)
  refine wpAny_bind (wpAny_isInstance (typeIs_bytes s o u) sub_bytes_tuple ?_)
  have hb : (if (b.size : Int) < 0 then max 0 ((b.size : Int) + (b.size : Int)) else (b.size : Int)) = (b.size : Int) := if_neg (by omega)
  have h0 : (if (0 : Int) < 0 then max 0 ((0 : Int) + (b.size : Int)) else (0 : Int)) = 0 := if_neg (by omega)
  dsimp only [Option.getD]
  simp only [hb, h0, Int.min_self, Bool.false_eq_true, if_false, if_true]
  show wpAny _ _ (Bytes.buffer? _ (.bytes o u) >>= _) _ _ s
  refine wpAny_bind (wpAny_of_eq KBy.buffer_eq ?_)
  have e : (if (b.size : Int) - 0 < (o.size : Int) then false else b.extract ((b.size : Int).toNat - o.size) (b.size : Int).toNat == o) = (if b.size < o.size then false else b.extract (b.size - o.size) b.size == o) := by
    by_cases hlt : b.size < o.size
    · rw [if_pos (by omega), if_pos hlt]
    · rw [if_neg (by omega), if_neg hlt]; rfl
  rw [← e] at h
  exact wpAny_pure ⟨_, rfl, h⟩

theorem take_eq {id : String} {b : Array UInt8} {t : Tok} : Bytes.takeBufferQuiet? id (.bytes b t) 0 = pure (some (b, none)) := by
  unfold Bytes.takeBufferQuiet? Bytes.takeBuffer?
  rw [KBy.special_eq KBy.look_buffer, KBy.own_buffer]
  rw [show ((0 : Int) == Bytes.fullReadOnly) = false by decide, KBy.buffer_eq]
  kernel_rfl
theorem letGo_none {M : Model} {A : Around} {E : Value → Shared → Prop} {Q : Unit → Shared → Prop} {s : Shared} (keep : List Value) (h : Q () s) : ∀ vs : List Value, wpAny M A (Bytes.joinLetGo (vs.map fun v => (v, none)) keep) Q E s
  | [] => wpAny_pure h
  | v :: vs => by
    show wpAny M A (letGo _ _ >>= fun _ => Bytes.joinLetGo (vs.map fun v => (v, none)) keep) Q E s
    exact wpAny_bind (wpAny_letGo (letGo_none keep h vs))

theorem meets_join (b : Array UInt8) (t : Tok) (l : Addr) (vs : List Value) (bs : List (Array UInt8)) (hb : BytesAre vs bs) :
    Meets («bytes.join» ⟨[.bytes b t, .ref l], []⟩) (fun _ R s => s.heap.IsList l vs.toArray ∧ (Bytes.joined b bs).size ≤ 16777216 ∧ (bs.foldl (· + ·.size) (b.size * (bs.length - 1))) ≤ 16777216 ∧ ∀ t' k, R (.ok (.ret (.bytes (Bytes.joined b bs) t'))) { s with toks := k }) := by
  refine .of_wp fun prog w A R s hS => ?_
  obtain ⟨hl, hz1, hz2, h⟩ := hS
  unfold Builtin.«bytes.join» Bytes.joinM
  refine wpAny_bind (wpAny_of_eq (a := (.bytes b t, .ref l)) (by kernel_rfl) ?_)
  show wpAny _ _ (Bytes.joinItems (.ref l) >>= _) _ _ s
  have hT : s.TypeIs (.ref l) "list" := hl.typeIs
  refine wpAny_bind ?_
  unfold Bytes.joinItems
  refine wpAny_bind (wpAny_typeOf hT (wpAny_pure ?_))
  have hl' := hl
  obtain ⟨ol, hol, _, nl, hdl⟩ := hl
  refine wpAny_bind (wpAny_seqItems hol hdl ?_)
  have hlen := hb.length
  have go : ∀ (f : Nat → (Array (Array UInt8)) × List (Value × Option Value) → Sem (ForInStep ((Array (Array UInt8)) × List (Value × Option Value)))) (g : (Array (Array UInt8)) × List (Value × Option Value) → Sem PySem.Fin),
      (∀ i (st : (Array (Array UInt8)) × List (Value × Option Value)) c u, vs[i]? = some (.bytes c u) → (∀ p ∈ st.2, p.1.onHeap = false) → wpAny (model prog w) A.in1 (f i st) (fun r s' => s' = s ∧ r = .yield (st.1.push c, st.2 ++ [(.bytes c u, none)])) (fun e s' => R (Except.error e) s') s) →
      wpAny (model prog w) A.in1 (g (bs.toArray, vs.map fun v => (v, none))) (fun fin s' => ∃ v, fin = Fin.done (Flow.ret v) ∧ R (Except.ok (Flow.ret v)) s') (fun e s' => R (Except.error e) s') s →
      wpAny (model prog w) A.in1 ((forIn [:vs.toArray.size] (#[], []) f) >>= g) (fun fin s' => ∃ v, fin = Fin.done (Flow.ret v) ∧ R (Except.ok (Flow.ret v)) s') (fun e s' => R (Except.error e) s') s := by
    intro f g hf hg
    refine wpAny_bind ?_
    rw [Std.Legacy.Range.forIn_eq_forIn_range']
    refine wpAny_forIn_list f (fun rest st s' => s' = s ∧ ∃ i, rest = List.range' i (vs.length - i) ∧ i ≤ vs.length ∧ st = ((bs.take i).toArray, (vs.take i).map fun v => (v, none))) _ ?_ ?_ _ _ ⟨rfl, 0, by simp [Std.Legacy.Range.size], Nat.zero_le _, by simp⟩
    · rintro x rest st s' ⟨rfl, i, hr, hi, rfl⟩
      have hlt : i < vs.length := by
        by_cases hq : i < vs.length
        · exact hq
        · rw [show vs.length - i = 0 by omega] at hr; cases hr
      rw [show vs.length - i = (vs.length - (i + 1)) + 1 by omega, List.range'_succ] at hr
      obtain ⟨rfl, rfl⟩ := List.cons.inj hr
      obtain ⟨c, u, hc, hv⟩ := hb.get x vs[x] (List.getElem?_eq_getElem hlt)
      have hv' : vs[x]? = some (.bytes c u) := by rw [List.getElem?_eq_getElem hlt, hv]
      refine wpAny_mono (hf x _ c u hv' ?_) ?_ fun _ _ e => e
      · intro p hp
        obtain ⟨v, hm, rfl⟩ := List.mem_map.mp hp
        obtain ⟨j, hj⟩ := List.mem_iff_getElem?.mp (List.mem_of_mem_take hm)
        obtain ⟨c', u', _, e'⟩ := hb.get j v hj
        show v.onHeap = false
        rw [e']; rfl
      · rintro r s'' ⟨rfl, rfl⟩
        refine ⟨rfl, x + 1, rfl, hlt, ?_⟩
        simp [List.take_add_one, hc, hv']
    · rintro st s' ⟨rfl, i, hr, hi, rfl⟩
      have he : i = vs.length := by
        by_cases hq : i < vs.length
        · rw [show vs.length - i = (vs.length - (i + 1)) + 1 by omega, List.range'_succ] at hr; cases hr
        · omega
      subst he
      rw [List.take_length, hlen, List.take_length]
      exact hg
  rcases hcs : vs with _ | ⟨v, _ | ⟨v', vs'⟩⟩
  rotate_left
  · subst hcs
    cases hb with
    | cons c u hb' =>
      cases hb' with
      | nil =>
        show wpAny _ _ (typeOf (.bytes c u) >>= _) _ _ s
        refine wpAny_bind (wpAny_of_eq (a := .type "bytes") rfl ?_)
        show wpAny _ _ (rule _ >>= _) _ _ s
        refine wpAny_bind (wpAny_rule ?_)
        have e : Bytes.joined b [c] = c := by
          show #[] ++ c = c
          exact Array.empty_append
        rw [e] at h
        exact wpAny_pure ⟨_, rfl, h u s.toks⟩
  all_goals
    rw [← hcs]
    have hns : ∀ x, vs.toArray ≠ #[x] := by
      intro x e
      have := congrArg Array.size e
      rw [hcs] at this
      simp at this
    refine (?_ : wpAny _ _ _ _ _ s)
    rw [hcs]
    show wpAny _ _ (forIn [:_] (#[], []) _ >>= _) _ _ s
    rw [← hcs]
    refine go _ _ ?_ ?_
    · intro i st c u hv hp
      show wpAny _ _ (seqItems? (.ref l) >>= _) _ _ s
      refine wpAny_bind (wpAny_seqItems hol hdl ?_)
      have hx : vs.toArray.getD i .none = .bytes c u := by simp [hv]
      have hany : (st.2.any fun x => x.1.onHeap) = false := by
        rw [List.any_eq_false]
        intro p hq
        rw [hp p hq]; exact Bool.false_ne_true
      dsimp only
      simp only [hx, hany]
      rw [if_neg (by decide)]
      refine wpAny_bind (wpAny_holding (wpAny_of_eq take_eq ?_))
      show wpAny _ _ (seqItems? (.ref l) >>= _) _ _ s
      refine wpAny_bind (wpAny_seqItems hol hdl ?_)
      dsimp only
      rw [if_neg (by simp)]
      exact wpAny_pure ⟨rfl, rfl⟩
    · dsimp only
      refine wpAny_bind (wpAny_of_eq (a := b) rfl ?_)
      have hsum : Bytes.tooLong (Array.foldl (fun x1 x2 => x1 + x2.size) (b.size * (bs.toArray.size - 1)) bs.toArray) = false := by
        refine KBy.tooLong_not ?_
        rw [List.size_toArray, List.foldl_toArray]
        exact hz2
      rw [if_neg (by rw [hsum]; exact Bool.false_ne_true)]
      refine wpAny_bind (wpAny_mkBytes ?_ (by rw [sizeLine_eq]; exact hz1))
      refine wpAny_bind (wpAny_holding (wpAny_point ?_))
      refine wpAny_bind (letGo_none _ ?_ vs)
      exact wpAny_pure ⟨_, rfl, h _ _⟩

theorem call_find {b c : Array UInt8} {t u : Tok} {Q : Value → Shared → Prop} (h : ∀ t' k, Q (.int (findInt b c) t') { s with toks := k }) : wpAny (model prog w) A (call (.builtin "bytes.find") [.bytes b t, .bytes c u]) Q E s :=
  call_meets slot_find (typeIs_bytes _ _ _) entry_find (args_find _ _) (meets_find b c t u) (h _ _)
theorem call_replace {b o n : Array UInt8} {t u v : Tok} {Q : Value → Shared → Prop} (ho : o.isEmpty = false) (hz1 : b.size + (Bytes.occurrences b o 0 b.size).length * n.size ≤ 16777216) (hz2 : (repB b o n).size ≤ 16777216) (h : ∀ t' k, Q (.bytes (repB b o n) t') { s with toks := k }) :
    wpAny (model prog w) A (call (.builtin "bytes.replace") [.bytes b t, .bytes o u, .bytes n v]) Q E s :=
  call_meets slot_replace (typeIs_bytes _ _ _) entry_replace (args_replace _ _ _) (meets_replace b o n t u v ho) ⟨hz1, by rw [sizeLine_eq]; exact hz2, h⟩
theorem call_endswith {b o : Array UInt8} {t u : Tok} {r : Bool} {Q : Value → Shared → Prop} (e : (if b.size < o.size then false else b.extract (b.size - o.size) b.size == o) = r) (h : Q (.bool r) s) : wpAny (model prog w) A (call (.builtin "bytes.endswith") [.bytes b t, .bytes o u]) Q E s :=
  call_meets FB.slot_bytes_endswith (typeIs_bytes _ _ _) FB.entry_bytes_endswith (FB.args_bytes_endswith_2 _ _) (meets_endswith b o t u) (by rw [e]; exact h)
section
variable {h₀ : Heap} {L : Addr} {m : PySem.Str → Option Value} {news : List (Addr × Obj)}
theorem call_split {b o : Array UInt8} {t u : Tok} {Q : Value → Shared → Prop} (F : Fr h₀ L s.heap m) (N : News h₀ L s.heap news) (ho : o.isEmpty = false) (hz1 : b.size ≤ 16777216) (hz2 : (Bytes.occurrences b o 0 b.size).length < b.size + 1) (hz3 : ∀ x ∈ Bytes.between b o.size (Bytes.occurrences b o 0 b.size), x.size ≤ 16777216)
    (hz4 : (Bytes.between b o.size (Bytes.occurrences b o 0 b.size)).length ≤ 16777216)
    (h : ∀ l vs h' k, BytesAre vs (Bytes.between b o.size (Bytes.occurrences b o 0 b.size)) → Fr h₀ L h' m → News h₀ L h' ((l, listOf vs.toArray 0) :: news) → (∀ p ∈ news, p.1 < l) → Q (.ref l) { s with heap := h', toks := k }) :
    wpAny (model prog w) A (call (.builtin "bytes.split") [.bytes b t, .bytes o u]) Q E s :=
  call_meets slot_split (typeIs_bytes _ _ _) entry_split (args_split _ _) (meets_split b o t u ho) ⟨by rw [sizeLine_eq]; exact hz1, hz2, fun x hx => by rw [sizeLine_eq]; exact hz3 x hx, by rw [sizeLine_eq]; exact hz4,
    fun vs k hv => h _ vs _ k hv (F.push _) (N.push F _) fun p hp => Heap.lt_size (N p hp).1⟩
theorem call_join {b : Array UInt8} {t : Tok} {l : Addr} {vs : List Value} {n : Nat} {bs : List (Array UInt8)} {Q : Value → Shared → Prop} (N : News h₀ L s.heap news) (hl : (l, listOf vs.toArray n) ∈ news) (hb : BytesAre vs bs)
    (hz1 : (Bytes.joined b bs).size ≤ 16777216) (hz2 : bs.foldl (· + ·.size) (b.size * (bs.length - 1)) ≤ 16777216) (h : ∀ t' k, Q (.bytes (Bytes.joined b bs) t') { s with toks := k }) :
    wpAny (model prog w) A (call (.builtin "bytes.join") [.bytes b t, .ref l]) Q E s :=
  call_meets slot_join (typeIs_bytes _ _ _) entry_join (args_join _ _) (meets_join b t l vs bs hb) ⟨⟨_, (N _ hl).1, rfl, n, rfl⟩, hz1, hz2, h⟩
end
section
variable {M : Model} {b : Array UInt8} {t : Tok} {pl : Sem Bool} {Q : Value × List Value → Shared → Prop}
theorem meth_find (h : Q (.builtin "bytes.find", [.bytes b t]) s) : wpAny M A (getMethod (.bytes b t) "find" pl) Q E s := by
  with_reducible exact KBd.method_of (.bytes b t) (typeIs_bytes _ _ _) slot_find type_find KBd.noRef h
theorem meth_replace (h : Q (.builtin "bytes.replace", [.bytes b t]) s) : wpAny M A (getMethod (.bytes b t) "replace" pl) Q E s := by
  with_reducible exact KBd.method_of (.bytes b t) (typeIs_bytes _ _ _) slot_replace type_replace KBd.noRef h
theorem meth_split (h : Q (.builtin "bytes.split", [.bytes b t]) s) : wpAny M A (getMethod (.bytes b t) "split" pl) Q E s := by
  with_reducible exact KBd.method_of (.bytes b t) (typeIs_bytes _ _ _) slot_split type_split KBd.noRef h
theorem meth_join (h : Q (.builtin "bytes.join", [.bytes b t]) s) : wpAny M A (getMethod (.bytes b t) "join" pl) Q E s := by
  with_reducible exact KBd.method_of (.bytes b t) (typeIs_bytes _ _ _) slot_join type_join KBd.noRef h
theorem meth_endswith (h : Q (.builtin "bytes.endswith", [.bytes b t]) s) : wpAny M A (getMethod (.bytes b t) "endswith" pl) Q E s := by
  with_reducible exact KBd.method_of (.bytes b t) (typeIs_bytes _ _ _) FB.slot_bytes_endswith FB.type_bytes_endswith KBd.noRef h
end

section
variable {h₀ : Heap} {L : Addr} {m : PySem.Str → Option Value} {news : List (Addr × Obj)} {value slice : PySem.Expr} {b : Array UInt8} {t : Tok} {l u : Value} {lo hi : Option Int} {Q : Value → Shared → Prop}
theorem slice_B (F : Fr h₀ L s.heap m) (N : News h₀ L s.heap news) (hl : IsPart l lo) (hu : IsPart u hi) (hz : b.size ≤ 16777216)
    (h : ∀ h' t' k, Fr h₀ L h' m → News h₀ L h' news → Q (.bytes (KBy.picked b lo hi) t') { s with heap := h', toks := k })
    (hs : subscripted slice false (.bytes b t) (.ref s.heap.objs.size) = operate [.ref s.heap.objs.size, .bytes b t] (getItem (.bytes b t) (.ref s.heap.objs.size)) := by with_unfolding_all rfl)
    (ht : ∀ r, letTemporaryGo value (.bytes b t) r = pure () := by intro _; with_unfolding_all rfl) :
    wpAny (model prog w) A (subscriptTail value slice (.bytes b t) (.ref s.heap.objs.size)) Q E { s with heap := s.heap.push { cls := .type "slice", data := .fields #[l, u, .none] } } :=
  KBc.slice_K F N rfl hl hu (by rw [KBw.ints_length]; exact hz) (fun h' t' k F' N' _ => h h' t' k F' N') hs ht
end

theorem ret_at {h₀ : Heap} {L : Addr} {m : PySem.Str → Option Value} {news news' : List (Addr × Obj)} {s : Shared} {Q : Value → Shared → Prop} {R : Tok → Value} {v : Value} {h' : Heap} {tk' : Nat} (hret : CbRet h₀ L m news s Q R) (e : ∃ t, v = R t) (F : Fr h₀ L h' m) (N : News h₀ L h' news')
    (hs : ∀ p ∈ news, p ∈ news') : Q v { s with heap := h', toks := tk' } := by
  obtain ⟨t, rfl⟩ := e
  exact hret t h' tk' F (cb_drop N hs)
end
def shortB (b : Array UInt8) : Array UInt8 := (shortL b.toList).toArray
def longB (b : Array UInt8) : Array UInt8 := (longL 0 b.toList).toArray
theorem shortB_size (b : Array UInt8) : (shortB b).size ≤ b.size := by
  have := shortL_length b.toList
  simpa [shortB] using this
theorem longB_size (b : Array UInt8) : (longB b).size ≤ 2 * b.size := by
  have := longL_length b.toList 0
  simpa [longB] using this
theorem repB_short (b : Array UInt8) : repB b #[13, 10] #[10] = shortB b := rep_short b
theorem occ_two (b : Array UInt8) : (Bytes.occurrences b #[13, 10] 0 b.size).length ≤ b.size := by
  rw [occ_eq]
  have := occL_length b #[13, 10] (b.size + 1 - (#[13, 10] : Array UInt8).size) 0 0
  have e : (#[13, 10] : Array UInt8).size = 2 := rfl
  rw [e] at this
  rw [e]
  omega
theorem occ_one (b : Array UInt8) : (Bytes.occurrences b #[10] 0 b.size).length ≤ b.size := by
  rw [occ_eq]
  have := occL_length b #[10] (b.size + 1 - (#[10] : Array UInt8).size) 0 0
  have e : (#[10] : Array UInt8).size = 1 := rfl
  rw [e] at this
  rw [e]
  omega
section
variable {prog : Program} {w : World} {A : Around} {E : Value → Shared → Prop} {s : Shared}
theorem crlf_K {b : Array UInt8} {t u v : Tok} {Q : Value → Shared → Prop} (hz : b.size ≤ 1000000) (h : ∀ t' k, Q (.bytes (shortB b) t') { s with toks := k }) :
    wpAny (model prog w) A (call (.builtin "bytes.replace") [.bytes b t, .bytes #[13, 10] u, .bytes #[10] v]) Q E s := by
  have h1 := occ_two b
  have h2 := shortB_size b
  refine call_replace rfl ?_ ?_ ?_
  · show b.size + (Bytes.occurrences b #[13, 10] 0 b.size).length * 1 ≤ _
    omega
  · rw [repB_short]; omega
  · intro t' k
    rw [repB_short]
    exact h t' k

theorem item_B {b : Array UInt8} {i : Int} {t ui : Tok} {value slice : PySem.Expr} {Q : Value → Shared → Prop} (hfit : b.size ≤ 16777216) (h0 : 0 ≤ i) (h1 : i < (b.size : Int)) (h : ∀ t' k, Q (.int (((b.toList.getD i.toNat 0).toNat : Nat) : Int) t') { s with toks := k })
    (hs : subscripted slice false (.bytes b t) (.int i ui) = operate [.bytes b t, .int i ui] (getItem (.bytes b t) (.int i ui)) := by with_unfolding_all rfl)
    (ht : ∀ r, letTemporaryGo value (.bytes b t) r = pure () := by intro _; with_unfolding_all rfl) :
    wpAny (model prog w) A (subscriptTail value slice (.bytes b t) (.int i ui)) Q E s := by
  obtain ⟨l⟩ := b
  have h1' : i < (l.length : Int) := h1
  have hf' : l.length ≤ 16777216 := hfit
  exact KBy.item_N (x := l) (by omega) h0 h1' (h _ _) hs ht
end

/-! a place where the walk is to stop -/
def Halt (P : Prop) : Prop := P
theorem Halt.mk {P : Prop} (h : P) : Halt P := h
theorem Halt.go {P : Prop} (h : Halt P) : P := h

/-! the comprehension of the short octets -/
def keepS (b : Array UInt8) (k : Int) : Bool := (KBy.picked b (some k) (some (k + 2))).toList != [13, 10]
def gS (b : Array UInt8) (l : List Int) (k : Int) : List Int := if keepS b k = true then l ++ [(((b.toList.getD k.toNat 0).toNat : Nat) : Int)] else l
theorem gS_yes {b : Array UInt8} {news : List (Addr × Obj)} {l : List Int} {k : Int} {t : Tok} (h : ((KBy.picked b (some k) (some (k + 2))).toList != [13, 10]) = true) : KCiEl news l (gS b l k) (.int (((b.toList.getD k.toNat 0).toNat : Nat) : Int) t) news :=
  kci_el (by unfold gS keepS; rw [if_pos h]) rfl rfl
theorem gS_no {b : Array UInt8} {news : List (Addr × Obj)} {l : List Int} {k : Int} (h : ¬ ((KBy.picked b (some k) (some (k + 2))).toList != [13, 10]) = true) : KCiNo news l (gS b l k) news :=
  kci_no (by unfold gS keepS; rw [if_neg h]) rfl
theorem gS_no' {b : Array UInt8} {news : List (Addr × Obj)} {l : List Int} {k : Int} (h : ((KBy.picked b (some k) (some (k + 2))).toList != [13, 10]) = false) : KCiNo news l (gS b l k) news :=
  gS_no (by rw [h]; exact Bool.false_ne_true)
theorem gS_grows (b : Array UInt8) : KPfGrows (gS b) := by
  intro l k
  unfold gS
  split <;> simp

def intsOf (l : List UInt8) : List Int := l.map fun c => ((c.toNat : Nat) : Int)
theorem byteArr_intsOf (l : List UInt8) : byteArr (intsOf l) = l.toArray := by
  unfold byteArr intsOf
  rw [List.map_map]
  congr 1
  have e : ∀ c ∈ l, ((fun n : Int => n.toNat.toUInt8) ∘ fun c : UInt8 => ((c.toNat : Nat) : Int)) c = c := by
    intro c _
    show ((c.toNat : Int).toNat).toUInt8 = c
    rw [Int.toNat_natCast]
    exact UInt8.ofNat_toNat
  exact (List.map_congr_left e).trans (List.map_id _)
theorem intsOf_in (l : List UInt8) : ∀ n ∈ intsOf l, 0 ≤ n ∧ n < 256 := by
  intro n hn
  obtain ⟨c, _, rfl⟩ := List.mem_map.mp hn
  have := c.toNat_lt
  omega
theorem intsOf_length (l : List UInt8) : (intsOf l).length = l.length := by simp [intsOf]
section
variable {prog : Program} {w : World} {A : Around} {E : Value → Shared → Prop} {s : Shared} {h₀ : Heap} {L : Addr} {m : PySem.Str → Option Value} {news : List (Addr × Obj)}
theorem bytes_l {D : Addr} {vs : List Value} {ns : List Int} {l : List UInt8} {Q : Value → Shared → Prop} (F : Fr h₀ L s.heap m) (N : News h₀ L s.heap news) (hh : A.handled = none) (hl : s.heap.IsList D vs.toArray) (hi : IntsAre vs ns) (e : ns = intsOf l) (hz : l.length ≤ 16777216)
    (h : ∀ h' t' k, Fr h₀ L h' m → News h₀ L h' news → Q (.bytes l.toArray t') { s with heap := h', toks := k }) : wpAny (model prog w) A (call (.type "bytes") [.ref D]) Q E s := by
  subst e
  refine KBa.make_K F N hh hl hi (intsOf_in l) (by rw [intsOf_length]; exact hz) fun h' t' k F' N' _ => ?_
  rw [byteArr_intsOf]
  exact h h' t' k F' N'
end

theorem keepS_at (b : Array UInt8) (i : Nat) (hi : i ≤ b.size) : keepS b (i : Int) = true ↔ ¬ ∃ r, b.toList.drop i = 13 :: 10 :: r := by
  have e : (KBy.picked b (some (i : Int)) (some ((i : Int) + 2))).toList = (b.toList.drop i).take 2 := by
    rw [KBc.picked_eq]
    show (b.toList.drop (clipAt b.size (i : Int))).take (clipAt b.size ((i : Int) + 2) - clipAt b.size (i : Int)) = _
    have e1 : clipAt b.size (i : Int) = i := by rw [clipAt_nat]; omega
    have e2 : clipAt b.size ((i : Int) + 2) = min (i + 2) b.size := clipAt_nat b.size (i + 2)
    rw [e1, e2]
    by_cases h : i + 2 ≤ b.size
    · rw [Nat.min_eq_left h, show i + 2 - i = 2 by omega]
    · rw [Nat.min_eq_right (by omega), List.take_of_length_le (by simp), List.take_of_length_le (by rw [List.length_drop, Array.length_toList]; omega)]
  unfold keepS
  rw [e, bne_iff_ne, ne_eq]
  refine not_congr ⟨fun h => ?_, ?_⟩
  · match hd : b.toList.drop i with
    | [] => rw [hd] at h; cases h
    | [c] => rw [hd] at h; cases h
    | c :: d :: r =>
      rw [hd] at h
      simp at h
      exact ⟨r, by rw [h.1, h.2]⟩
  · rintro ⟨r, h⟩
    rw [h]; rfl
theorem fold_short_at (b : Array UInt8) : ∀ (k i : Nat) (l : List Int), i + k = b.size → ((List.range' i k).map fun (j : Nat) => (0 : Int) + (j : Int)).foldl (gS b) l = l ++ intsOf (shortL (b.toList.drop i))
  | 0, i, l, h => by
    rw [List.drop_of_length_le (by rw [Array.length_toList]; omega)]
    simp [shortL, intsOf]
  | k + 1, i, l, h => by
    rw [List.range'_succ, List.map_cons, List.foldl_cons, fold_short_at b k (i + 1) _ (by omega)]
    have hlt : i < b.toList.length := by rw [Array.length_toList]; omega
    have hr : b.toList.drop i = b.toList[i] :: b.toList.drop (i + 1) := List.drop_eq_getElem_cons hlt
    have hk := keepS_at b i (by omega)
    have e0 : (0 : Int) + (i : Int) = (i : Int) := Int.zero_add _
    have eg : b.toList.getD (i : Int).toNat 0 = b.toList[i] := by
      rw [Int.toNat_natCast, List.getD_eq_getElem?_getD, List.getElem?_eq_getElem hlt]; rfl
    rw [e0]
    unfold gS
    rw [eg]
    by_cases hq : ∃ r, b.toList.drop i = 13 :: 10 :: r
    · rw [if_neg fun z => hk.mp z hq]
      obtain ⟨r, hq⟩ := hq
      rw [hq] at hr
      obtain ⟨_, h2⟩ := List.cons.inj hr
      rw [hq, ← h2]
      congr 2
    · rw [if_pos (hk.mpr hq), hr]
      have es : shortL (b.toList[i] :: b.toList.drop (i + 1)) = b.toList[i] :: shortL (b.toList.drop (i + 1)) := by
        show (if b.toList[i] = 13 ∧ (b.toList.drop (i + 1)).head? = some 10 then shortL (b.toList.drop (i + 1)) else b.toList[i] :: shortL (b.toList.drop (i + 1))) = _
        rw [if_neg]
        rintro ⟨h1, h2⟩
        apply hq
        cases hd : b.toList.drop (i + 1) with
        | nil => rw [hd] at h2; cases h2
        | cons d r =>
          rw [hd] at h2
          exact ⟨r, by rw [hr, h1, hd, Option.some.inj h2]⟩
      rw [es]
      simp [intsOf]
theorem fold_short (b : Array UInt8) : (rangeKs 0 ((b.size : Int) - 0).toNat).foldl (gS b) [] = intsOf (shortL b.toList) := by
  have e : ((b.size : Int) - 0).toNat = b.size := by omega
  rw [e]
  unfold rangeKs
  have h := fold_short_at b b.size 0 [] (by omega)
  rw [List.range_eq_range']
  simpa using h

/-! the loop of the long octets -/
def LongP (b : Array UInt8) (pre out : List Int) : Prop := out = intsOf (longL 0 (b.toList.take pre.length))
theorem long_start (b : Array UInt8) : LongP b [] [] ∧ ([] : List Int).length ≤ 2 * ([] : List Int).length := ⟨by simp [LongP, longL, intsOf], Nat.le_refl _⟩
theorem longL_snoc (c : UInt8) : ∀ (l : List UInt8) (p : UInt8), longL p (l ++ [c]) = longL p l ++ (if c = 10 ∧ l.getLast?.getD p ≠ 13 then [13, 10] else [c])
  | [], p => by
    show (if c = 10 ∧ p ≠ 13 then 13 :: 10 :: longL c [] else c :: longL c []) = (if c = 10 ∧ p ≠ 13 then [13, 10] else [c])
    rfl
  | d :: l, p => by
    have ih := longL_snoc c l d
    show (if d = 10 ∧ p ≠ 13 then 13 :: 10 :: longL d (l ++ [c]) else d :: longL d (l ++ [c])) = (if d = 10 ∧ p ≠ 13 then 13 :: 10 :: longL d l else d :: longL d l) ++ _
    rw [ih]
    have e : (d :: l).getLast?.getD p = l.getLast?.getD d := by
      cases l with
      | nil => rfl
      | cons x l => simp [List.getLast?_cons]
    rw [e]
    by_cases h : d = 10 ∧ p ≠ 13
    · rw [if_pos h, if_pos h]; rfl
    · rw [if_neg h, if_neg h]; rfl

def LongS (b : Array UInt8) (pre : List Int) (c : List Value × Nat) : Prop := ∃ os, IntsAre c.1 os ∧ LongP b pre os ∧ c.1.length ≤ 2 * pre.length
theorem longS_start (b : Array UInt8) : LongS b [] ([], 0) := ⟨[], .nil, (long_start b).1, Nat.le_refl _⟩

section
variable {prog : Program} {w : World} {A : Around} {E : Value → Shared → Prop} {s : Shared} {h₀ : Heap} {L : Addr} {m : PySem.Str → Option Value} {news own : List (Addr × Obj)}
theorem append_O {l : Addr} {us : List Value} {n : Nat} {x : Value} {adr : List Addr} {Q : Value → Shared → Prop} (F : Fr h₀ L s.heap m) (N : News h₀ L s.heap (((l, listOf us.toArray n) :: news) ++ own)) (h1 : ∀ p ∈ news, p.1 < l) (h2 : OwnOff own (l :: adr)) (hz : us.length ≤ 16777216)
    (h : ∀ h', Fr h₀ L h' m → News h₀ L h' (((l, listOf (us ++ [x]).toArray (n + 1)) :: news) ++ own) → Q .none { s with heap := h' }) : wpAny (model prog w) A (call (.builtin "list.append") [.ref l, x]) Q E s := by
  refine append_K F N (news' := ((l, listOf (us.toArray.push x) (n + 1)) :: news) ++ own) (Upd.head fun p hp => ?_) (fun h' F' N' => ?_) (by rw [List.size_toArray, sizeLine_eq]; exact hz)
  · rcases List.mem_append.mp hp with q | q
    · exact Nat.ne_of_lt (h1 p q)
    · exact h2 p q l (List.mem_cons_self ..)
  · rw [List.push_toArray] at N'
    exact h h' F' N'
end

theorem long_at (b : Array UInt8) (i : Nat) (hi : i < b.toList.length) : longL 0 (b.toList.take (i + 1)) = longL 0 (b.toList.take i) ++ (if b.toList.getD i 0 = 10 ∧ (i = 0 ∨ b.toList.getD (i - 1) 0 ≠ 13) then [13, 10] else [b.toList.getD i 0]) := by
  have e1 : b.toList.take (i + 1) = b.toList.take i ++ [b.toList.getD i 0] := by
    rw [List.take_add_one, List.getElem?_eq_getElem hi, List.getD_eq_getElem?_getD, List.getElem?_eq_getElem hi]
    rfl
  rw [e1, longL_snoc]
  congr 1
  have e2 : ((b.toList.take i).getLast?.getD 0 ≠ 13) ↔ (i = 0 ∨ b.toList.getD (i - 1) 0 ≠ 13) := by
    cases i with
    | zero => simp
    | succ j =>
      have hj : j < b.toList.length := by omega
      rw [List.take_add_one, List.getElem?_eq_getElem hj]
      simp [List.getD_eq_getElem?_getD, List.getElem?_eq_getElem hj]
  by_cases h : b.toList.getD i 0 = 10 ∧ (i = 0 ∨ b.toList.getD (i - 1) 0 ≠ 13)
  · rw [if_pos h, if_pos ⟨h.1, e2.mpr h.2⟩]
  · rw [if_neg h, if_neg fun q => h ⟨q.1, e2.mp q.2⟩]
theorem u8_eq {c : UInt8} {n : Nat} (hn : n < 256) : ((c.toNat : Nat) : Int) = (n : Int) ↔ c = UInt8.ofNat n := by
  constructor
  · intro h
    apply UInt8.toNat_inj.mp
    have h' : c.toNat = n := by omega
    rw [h', UInt8.toNat_ofNat_of_lt' hn]
  · rintro rfl
    rw [UInt8.toNat_ofNat_of_lt' hn]
section
variable {b : Array UInt8} {pre : List Int} {us : List Value} {nn : Nat} {os : List Int} {k : Int} {t1 t2 : Tok}
theorem longS_two (hi : IntsAre us os) (hP : LongP b pre os) (hl : us.length ≤ 2 * pre.length) (hk : k = 0 + (pre.length : Int)) (hlt : pre.length < ((b.size : Int) - 0).toNat) (h10 : (((b.toList.getD k.toNat 0).toNat : Nat) : Int) = 10)
    (hp : k = 0 ∨ (((b.toList.getD (k - 1).toNat 0).toNat : Nat) : Int) ≠ 13) : LongS b (pre ++ [k]) ((us ++ [.int 13 t1]) ++ [.int (((b.toList.getD k.toNat 0).toNat : Nat) : Int) t2], nn) := by
  have hkn : k.toNat = pre.length := by omega
  have hkm : (k - 1).toNat = pre.length - 1 := by omega
  rw [hkn] at h10 ⊢
  rw [hkm] at hp
  refine ⟨os ++ [13] ++ [(((b.toList.getD pre.length 0).toNat : Nat) : Int)], (hi.append (.cons 13 t1 .nil)).append (.cons _ t2 .nil), ?_, ?_⟩
  · unfold LongP at hP ⊢
    rw [List.length_append, List.length_singleton, long_at b pre.length (by have hbl : b.toList.length = b.size := Array.length_toList; omega), if_pos, hP, h10]
    · simp [intsOf]
    · refine ⟨(u8_eq (n := 10) (by decide)).mp h10, ?_⟩
      rcases hp with h | h
      · exact .inl (by omega)
      · exact .inr fun q => h ((u8_eq (n := 13) (by decide)).mpr q)
  · simp only [List.length_append, List.length_cons, List.length_nil]; omega
theorem longS_one (hi : IntsAre us os) (hP : LongP b pre os) (hl : us.length ≤ 2 * pre.length) (hk : k = 0 + (pre.length : Int)) (hlt : pre.length < ((b.size : Int) - 0).toNat)
    (hp : ¬ ((((b.toList.getD k.toNat 0).toNat : Nat) : Int) = 10 ∧ (k = 0 ∨ (((b.toList.getD (k - 1).toNat 0).toNat : Nat) : Int) ≠ 13))) : LongS b (pre ++ [k]) (us ++ [.int (((b.toList.getD k.toNat 0).toNat : Nat) : Int) t2], nn) := by
  have hkn : k.toNat = pre.length := by omega
  have hkm : (k - 1).toNat = pre.length - 1 := by omega
  rw [hkn, hkm] at hp
  rw [hkn]
  refine ⟨os ++ [(((b.toList.getD pre.length 0).toNat : Nat) : Int)], hi.append (.cons _ t2 .nil), ?_, ?_⟩
  · unfold LongP at hP ⊢
    rw [List.length_append, List.length_singleton, long_at b pre.length (by have hbl : b.toList.length = b.size := Array.length_toList; omega), if_neg, hP]
    · simp [intsOf]
    · rintro ⟨h1, h2⟩
      refine hp ⟨(u8_eq (n := 10) (by decide)).mpr h1, ?_⟩
      rcases h2 with h | h
      · exact .inl (by omega)
      · exact .inr fun q => h ((u8_eq (n := 13) (by decide)).mp q)
  · simp only [List.length_append, List.length_cons, List.length_nil]; omega
theorem longS_10f (hi : IntsAre us os) (hP : LongP b pre os) (hl : us.length ≤ 2 * pre.length) (hk : k = 0 + (pre.length : Int)) (hlt : pre.length < ((b.size : Int) - 0).toNat) (h10 : (((b.toList.getD k.toNat 0).toNat : Nat) : Int) ≠ 10) :
    LongS b (pre ++ [k]) (us ++ [.int (((b.toList.getD k.toNat 0).toNat : Nat) : Int) t2], nn) := longS_one hi hP hl hk hlt fun q => h10 q.1
theorem longS_13 (hi : IntsAre us os) (hP : LongP b pre os) (hl : us.length ≤ 2 * pre.length) (hk : k = 0 + (pre.length : Int)) (hlt : pre.length < ((b.size : Int) - 0).toNat) (h0 : k ≠ 0) (h13 : (((b.toList.getD (k - 1).toNat 0).toNat : Nat) : Int) = 13) :
    LongS b (pre ++ [k]) (us ++ [.int (((b.toList.getD k.toNat 0).toNat : Nat) : Int) t2], nn) := longS_one hi hP hl hk hlt fun q => q.2.elim h0 fun z => z h13
end
theorem longS_end {b : Array UInt8} {c : List Value × Nat} (h : LongS b (rangeKs 0 ((b.size : Int) - 0).toNat) c) : ∃ os, IntsAre c.1 os ∧ os = intsOf (longL 0 b.toList) := by
  obtain ⟨os, hi, hP, _⟩ := h
  refine ⟨os, hi, ?_⟩
  unfold LongP at hP
  rw [hP, rangeKs_length, List.take_of_length_le (by rw [Array.length_toList]; omega)]

theorem list_fin {P : List Int → List Value × Nat → Prop} {h₀ h' : Heap} {L l : Addr} {x : PySem.Str} {m' m₀ : PySem.Str → Option Value} {us : List Value} {nn tk : Nat} {news own : List (Addr × Obj)} {adr : List Addr} {pre : List Int} {s₁ : Shared}
    (F : Fr h₀ L h' m') (N : News h₀ L h' (((l, listOf us.toArray nn) :: news) ++ own)) (ha : l :: news.map (·.1) = adr) (hr : ∀ z, z ≠ x → m' z = m₀ z) (hp : P pre (us, nn)) :
    InvEndN h₀ L (KstS (fun c : List Value × Nat => (l, listOf c.1.toArray c.2) :: news) (fun _ => []) (fun _ => True) x [] m₀ P pre) own adr s₁ { s₁ with heap := h', toks := tk } :=
  kst_end (us, nn) F N (fun p hp => List.mem_append.mpr (.inl hp)) (fun p hp => List.mem_append.mpr (.inr hp)) ha trivial (fun p hp => nomatch hp) (fun z hz _ _ => hr z hz) hp

end Mine
namespace Mine
open PySem PySem.Calls PyProof.Rows PyProof.V PySem.Spec PySem.W Builtin
set_option maxRecDepth 100000

/-! the loop over enumerate(parts) -/
section
variable {prog : Program} {w : World} {A : Around} {E : Value → Shared → Prop} {s : Shared} {env : Env} {h₀ : Heap} {body : List Stmt} {Q : Flow → Shared → Prop}
theorem enum_inv {elts : List Expr} {k : Nat} {pos : Pos} {l : Addr} {vs : List Value} {n : Nat} {m₀ : PySem.Str → Option Value} {news : List (Addr × Obj)} (J : Nat → (PySem.Str → Option Value) → List (Addr × Obj) → Prop)
    (hh : A.handled = none) (F : Fr h₀ env.locals s.heap m₀) (N : News h₀ env.locals s.heap news) (hm : (l, listOf vs.toArray n) ∈ news) (hj : J 0 m₀ news)
    (hJ : ∀ i m nx, J i m nx → nx.map (·.1) = news.map (·.1) ∧ (l, listOf vs.toArray n) ∈ nx)
    (turn : ∀ i v m₁ nx h tk own T t, vs[i]? = some v → J i m₁ nx → OwnOff own (news.map (·.1)) → Fr h₀ env.locals h m₁ → News h₀ env.locals h (nx ++ own) → IsTup h T #[.int ((i : Nat) : Int) t, v] →
      wpAny (model prog w) A (assign (.Tuple elts k pos) env (.ref T)) (fun _ s₂ => wpAny (model prog w) A (execs body env) (InvPostN h₀ env.locals (J (i + 1)) own (news.map (·.1)) { s with heap := h, toks := tk } Q) E s₂) E { s with heap := h, toks := tk })
    (done : ∀ m₁ nx h tk, J vs.length m₁ nx → Fr h₀ env.locals h m₁ → News h₀ env.locals h nx → Q .next { s with heap := h, toks := tk }) :
    wpAny (model prog w) A (call (.type "enumerate") [.ref l]) (fun xv s₁ => wpAny (model prog w) A (pyIter xv) (fun it s₂ => TurnsAt prog w A h₀ env (.Tuple elts k pos) body Q E it s₂) E s₁) E s := by
  have hax := N _ hm
  have hl : s.heap.IsList l vs.toArray := ⟨_, hax.1, rfl, n, rfl⟩
  have hlt : l < s.heap.objs.size := Heap.lt_size hax.1
  have hLs : env.locals < s.heap.objs.size := F.ns.lt
  refine call_enumerate_list hl fun h' hE hI hsz hk => ?_
  refine wpAny_pyIter_enum hE ?_
  have W := KTurns.ofWalksU (elts := elts) (k := k) (pos := pos) (WalksT.enumerate (prog := prog) (w := w) hh (s.heap.objs.size + 1) s.heap.objs.size l (Nat.succ_ne_self _) (ktu_ne 1 hlt) (Nat.ne_of_lt hlt) vs.toArray).toU
  have F' : Fr h₀ env.locals h' m₀ := F.keeps hk
  have N' : News h₀ env.locals h' news := N.grown hk
  refine ⟨_, _, _, _, _, _, _, m₀, news, (fun i m nx => J i m nx), rfl, W, ?_, ?_, ?_, ?_, F', N', hj, ?_, ?_⟩
  · intro hI
    have hI' : env.locals = s.heap.objs.size + 1 ∨ env.locals = s.heap.objs.size ∨ env.locals = l := by simpa using hI
    rcases hI' with e | e | e
    · exact absurd hLs (by rw [e]; exact Nat.not_lt.mpr (Nat.le_succ _))
    · exact absurd hLs (by rw [e]; exact Nat.lt_irrefl _)
    · exact hax.2.1 e.symm
  · intro b hb
    have hb' : b = s.heap.objs.size + 1 ∨ b = s.heap.objs.size := by simpa using hb
    rcases hb' with rfl | rfl
    · exact ktu_new F (Nat.le_succ _)
    · exact ktu_new F (Nat.le_refl _)
  · intro p hp hI
    have hI' : p.1 = s.heap.objs.size + 1 ∨ p.1 = s.heap.objs.size := by simpa using hI
    have hlp := Heap.lt_size (N p hp).1
    rcases hI' with e | e
    · rw [e] at hlp; exact absurd hlp (Nat.not_lt.mpr (Nat.le_succ _))
    · rw [e] at hlp; exact absurd hlp (Nat.lt_irrefl _)
  · exact ⟨⟨_, hE⟩, hI, ⟨_, hk _ _ hax.1, rfl, n, rfl⟩⟩
  · rintro i v m₁ nx h₁ tk₁ own hi ⟨T, vals, rfl, ⟨t, x, hx, rfl⟩, hT⟩ hJ₁ hoff hown hget hfp _ F₁ N₁
    have hxv : vs[i]? = some x := by simpa using hx
    obtain ⟨hadr, hl₁⟩ := hJ i m₁ nx hJ₁
    have hsep : OwnOff (own.filter fun p => decide (p.1 ≠ l)) (news.map (·.1)) := by
      intro p hp b hb e
      obtain ⟨q, hq, rfl⟩ := List.mem_map.mp hb
      have h1 : p.1 ≠ l := by simpa using (List.mem_filter.mp hp).2
      have h2 : p.1 = s.heap.objs.size + 1 ∨ p.1 = s.heap.objs.size ∨ p.1 = l := by simpa using hown p (List.mem_filter.mp hp).1
      have h3 := Heap.lt_size (N q hq).1
      rw [← e] at h3
      rcases h2 with h2 | h2 | h2
      · rw [h2] at h3; exact absurd h3 (Nat.not_lt.mpr (Nat.le_succ _))
      · rw [h2] at h3; exact absurd h3 (Nat.lt_irrefl _)
      · exact h1 h2
    have N₂ : News h₀ env.locals h₁ (nx ++ own.filter fun p => decide (p.1 ≠ l)) := fun p hp => N₁ p ((List.mem_append.mp hp).elim (fun h => List.mem_append.mpr (.inr h)) fun h => List.mem_append.mpr (.inl ((List.mem_filter.mp h).1)))
    have hlo : h₁.get? l = some (listOf vs.toArray n) := (N₁ _ (List.mem_append.mpr (.inr hl₁))).1
    refine wpAny_mono (turn i x m₁ nx h₁ tk₁ _ T t hxv hJ₁ hsep F₁ N₂ hT) (fun _ s₂ hq => wpAny_mono hq (fun f s₃ p => ?_) fun _ _ e => e) fun _ _ e => e
    have fin : InvEndN h₀ env.locals (J (i + 1)) (own.filter fun p => decide (p.1 ≠ l)) (news.map (·.1)) { s with heap := h₁, toks := tk₁ } s₃ →
        LoopStepU h₀ env.locals [s.heap.objs.size + 1, s.heap.objs.size] own (J (i + 1)) { s with heap := h₁, toks := tk₁ } .next s₃ := by
      rintro ⟨h₂, tk₂, m', news', nx', e, F₃, N₃, hn, ho, ha, hm'⟩
      obtain ⟨_, hl₂⟩ := hJ (i + 1) m' nx' hm'
      refine ⟨rfl, h₂, tk₂, m', nx', e, F₃, fun p hp => ?_, fun p hp hI => ?_, hm'⟩
      · rcases List.mem_append.mp hp with h | h
        · by_cases hI : p.1 = l
          · have h2 : h₁.get? p.1 = some p.2 := hget p h
            rw [hI, hlo] at h2
            have h3 : p = (l, listOf vs.toArray n) := Prod.ext hI (Option.some.inj h2).symm
            rw [h3]
            exact N₃ _ (hn _ hl₂)
          · exact N₃ p (ho p (List.mem_filter.mpr ⟨h, by simpa using hI⟩))
        · exact N₃ p (hn p h)
      · have h1 : p.1 ∈ nx'.map (·.1) := List.mem_map.mpr ⟨p, hp, rfl⟩
        rw [ha] at h1
        obtain ⟨q, hq', e'⟩ := List.mem_map.mp h1
        have h3 := Heap.lt_size (N q hq').1
        have hI' : p.1 = s.heap.objs.size + 1 ∨ p.1 = s.heap.objs.size := by simpa using hI
        rw [e'] at h3
        rcases hI' with h2 | h2
        · rw [h2] at h3; exact absurd h3 (Nat.not_lt.mpr (Nat.le_succ _))
        · rw [h2] at h3; exact absurd h3 (Nat.lt_irrefl _)
    cases f with
    | ret v => exact p
    | brk => exact p
    | next => exact fin p
    | cont => exact fin p
  · intro h₂ tk m' nx F₂ N₂ _ hJ₂
    rw [List.size_toArray] at hJ₂
    exact done m' nx h₂ tk hJ₂ F₂ N₂
end

section
variable {prog : Program} {w : World} {A : Around} {E : Value → Shared → Prop} {s : Shared} {h₀ : Heap} {L : Addr} {m : PySem.Str → Option Value} {news : List (Addr × Obj)}
theorem len_O {l : Addr} {vs : List Value} {n : Nat} {Q : Value → Shared → Prop} (N : News h₀ L s.heap news) (hm : (l, listOf vs.toArray n) ∈ news) (hfit : vs.length ≤ 16777216)
    (h : ∀ t' k, Q (.int (vs.length : Int) t') { s with toks := k }) : wpAny (model prog w) A (call (.builtin "len") [.ref l]) Q E s := by
  have hl : s.heap.IsList l vs.toArray := ⟨_, (N _ hm).1, rfl, n, rfl⟩
  refine len_list hl (by rw [List.size_toArray]; omega) ?_
  rw [List.size_toArray]
  exact h _ _
theorem split_K {b : Array UInt8} {t u : Tok} {Q : Value → Shared → Prop} (F : Fr h₀ L s.heap m) (N : News h₀ L s.heap news) (hz : b.size ≤ 1000000)
    (h : ∀ l vs h' k, BytesAre vs ((splitL b.toList).map List.toArray) → vs.length = (splitL b.toList).length → vs.length ≤ b.size + 1 → Fr h₀ L h' m → News h₀ L h' ((l, listOf vs.toArray 0) :: news) → (∀ p ∈ news, p.1 < l) → Q (.ref l) { s with heap := h', toks := k }) :
    wpAny (model prog w) A (call (.builtin "bytes.split") [.bytes b t, .bytes #[10] u]) Q E s := by
  have ho := occ_one b
  have hbl : b.toList.length = b.size := Array.length_toList
  have hsl := splitL_length b.toList
  refine call_split F N rfl (by omega) (by omega) ?_ ?_ ?_
  · intro x hx
    rw [show (#[10] : Array UInt8).size = 1 from rfl, split_eq] at hx
    obtain ⟨p, hp, rfl⟩ := List.mem_map.mp hx
    have := splitL_mem b.toList p hp
    rw [List.size_toArray]; omega
  · rw [show (#[10] : Array UInt8).size = 1 from rfl, split_eq, List.length_map]
    omega
  · intro l vs h' k hv F' N' hlt
    rw [show (#[10] : Array UInt8).size = 1 from rfl, split_eq] at hv
    have hvl := hv.length
    rw [List.length_map] at hvl
    exact h l vs h' k hv hvl (by omega) F' N' hlt
theorem join_K {b : Array UInt8} {t : Tok} {l : Addr} {vs : List Value} {n : Nat} {Q : Value → Shared → Prop} (N : News h₀ L s.heap news) (hl : (l, listOf vs.toArray n) ∈ news) (hb : BytesAre vs ((cleanL (splitL b.toList)).map List.toArray)) (hz : b.size ≤ 1000000)
    (h : ∀ t' k, Q (.bytes (longB b) t') { s with toks := k }) : wpAny (model prog w) A (call (.builtin "bytes.join") [.bytes #[13, 10] t, .ref l]) Q E s := by
  have e : Bytes.joined #[13, 10] ((cleanL (splitL b.toList)).map List.toArray) = longB b := join_long b
  have hbl : b.toList.length = b.size := Array.length_toList
  have hs := longB_size b
  have h1 := splitL_length b.toList
  have h2 := cleanL_lens (splitL b.toList)
  have h3 := splitL_lens b.toList
  have h4 := cleanL_length (splitL b.toList)
  refine call_join N hl hb (by rw [e]; omega) ?_ (by rw [e]; exact h)
  rw [fold_lens, List.length_map]
  show 2 * _ + _ ≤ _
  omega
end

/-! the loop's state: what is cleaned so far -/
def endsCR (p : Array UInt8) : Bool := if p.size < (#[13] : Array UInt8).size then false else p.extract (p.size - (#[13] : Array UInt8).size) p.size == #[13]
theorem endsCR_iff (p : List UInt8) : endsCR p.toArray = true ↔ p.getLast? = some 13 := by
  unfold endsCR
  rw [show (#[13] : Array UInt8).size = 1 from rfl, List.size_toArray]
  by_cases h : p.length < 1
  · rw [if_pos h]
    have : p = [] := List.length_eq_zero_iff.mp (by omega)
    subst this
    simp
  · rw [if_neg h]
    have e : p.length = (p.length - 1) + 1 := by omega
    have h1 := at_get p.toArray 13 (p.length - 1)
    rw [← e] at h1
    rw [h1, List.getLast?_eq_getElem?]
theorem picked_last (p : List UInt8) (hp : p ≠ []) : KBy.picked p.toArray none (some (-1)) = p.dropLast.toArray := by
  rw [KBc.picked_eq]
  show ((p.drop 0).take (clipAt p.toArray.size (-1) - 0)).toArray = _
  have e : clipAt p.toArray.size (-1) = p.length - 1 := by
    have := clipAt_neg p.length 1 (Nat.le_refl _)
    simpa using this
  rw [e, List.drop_zero, Nat.sub_zero, List.dropLast_eq_take]
def CleanS (b : Array UInt8) (i : Nat) (us : List Value) : Prop := BytesAre us (((cleanL (splitL b.toList)).take i).map List.toArray)
theorem cleanS_zero (b : Array UInt8) : CleanS b 0 [] := by
  unfold CleanS
  rw [List.take_zero]
  exact .nil
section
variable {b : Array UInt8} {i : Nat} {us vs : List Value} {p : Array UInt8} {t t' : Tok}
theorem clean_next (hv : BytesAre vs ((splitL b.toList).map List.toArray)) (hi : vs[i]? = some (.bytes p t)) (hs : CleanS b i us) : ∃ q : List UInt8, p = q.toArray ∧ ∀ r, r = (clAt (splitL b.toList).length i q).toArray → CleanS b (i + 1) (us ++ [.bytes r t']) := by
  obtain ⟨c, u, hc, hv'⟩ := hv.get i _ hi
  cases hv'
  rw [List.getElem?_map] at hc
  cases hq : (splitL b.toList)[i]? with
  | none => rw [hq] at hc; cases hc
  | some q =>
    rw [hq] at hc
    refine ⟨q, (Option.some.inj hc).symm, fun r hr => ?_⟩
    unfold CleanS at hs ⊢
    rw [clean_take _ i q hq, List.map_append, hr]
    exact hs.append (.cons _ t' .nil)
theorem cleanS_strip (hv : BytesAre vs ((splitL b.toList).map List.toArray)) (hl : vs.length = (splitL b.toList).length) (hi : vs[i]? = some (.bytes p t)) (hs : CleanS b i us) (h1 : ((i : Nat) : Int) < (vs.length : Int) - 1) (h2 : endsCR p = true) :
    CleanS b (i + 1) (us ++ [.bytes (KBy.picked p none (some (-1))) t']) := by
  obtain ⟨q, rfl, hq⟩ := clean_next (t' := t') hv hi hs
  refine hq _ ?_
  have h13 := (endsCR_iff q).mp h2
  rw [picked_last q (by rintro rfl; cases h13)]
  unfold clAt strip1
  rw [if_pos (by omega), if_pos h13]
theorem cleanS_keep (hv : BytesAre vs ((splitL b.toList).map List.toArray)) (hl : vs.length = (splitL b.toList).length) (hi : vs[i]? = some (.bytes p t)) (hs : CleanS b i us) (h : ¬ (((i : Nat) : Int) < (vs.length : Int) - 1 ∧ endsCR p = true)) :
    CleanS b (i + 1) (us ++ [.bytes p t']) := by
  obtain ⟨q, rfl, hq⟩ := clean_next (t' := t') hv hi hs
  refine hq _ ?_
  unfold clAt
  by_cases h1 : i + 1 < (splitL b.toList).length
  · rw [if_pos h1]
    unfold strip1
    rw [if_neg fun z => h ⟨by omega, (endsCR_iff q).mpr z⟩]
  · rw [if_neg h1]
end
theorem cleanS_end {b : Array UInt8} {us : List Value} {n : Nat} (h : CleanS b n us) (hn : n = (splitL b.toList).length) : BytesAre us ((cleanL (splitL b.toList)).map List.toArray) := by
  unfold CleanS at h
  rw [List.take_of_length_le (by rw [cleanL_length]; omega)] at h
  exact h

theorem part_size {b : Array UInt8} {vs : List Value} {i : Nat} {p : Array UInt8} {t : Tok} (hv : BytesAre vs ((splitL b.toList).map List.toArray)) (hi : vs[i]? = some (.bytes p t)) : p.size ≤ b.size := by
  obtain ⟨c, u, hc, hv'⟩ := hv.get i _ hi
  cases hv'
  obtain ⟨q, hq, rfl⟩ := List.mem_map.mp (List.mem_of_getElem? hc)
  have := splitL_mem b.toList q hq
  rw [Array.length_toList] at this
  rw [List.size_toArray]
  exact this
def EnumJ (b : Array UInt8) (vs : List Value) (lc l : Addr) (news : List (Addr × Obj)) (m₀ : PySem.Str → Option Value) (i : Nat) (m : PySem.Str → Option Value) (nx : List (Addr × Obj)) : Prop :=
  ∃ us nn, nx = (lc, listOf us.toArray nn) :: (l, listOf vs.toArray 0) :: news ∧ CleanS b i us ∧ us.length = i ∧ ∀ z, z ≠ Str.ofString "i" → z ≠ Str.ofString "part" → m z = m₀ z
theorem enumJ_map {h₀ h : Heap} {L : Addr} {m₀ m : PySem.Str → Option Value} (hm : ∀ z, z ≠ Str.ofString "i" → z ≠ Str.ofString "part" → m z = m₀ z) (F : Fr h₀ L h m) :
    Fr h₀ L h (fun z => if z = Str.ofString "i" then m (Str.ofString "i") else if z = Str.ofString "part" then m (Str.ofString "part") else m₀ z) := by
  have e : (fun z => if z = Str.ofString "i" then m (Str.ofString "i") else if z = Str.ofString "part" then m (Str.ofString "part") else m₀ z) = m := by
    funext z
    by_cases h1 : z = Str.ofString "i"
    · rw [if_pos h1, h1]
    · rw [if_neg h1]
      by_cases h2 : z = Str.ofString "part"
      · rw [if_pos h2, h2]
      · rw [if_neg h2]; exact (hm z h1 h2).symm
  rw [e]; exact F
theorem enum_fin {b : Array UInt8} {vs us : List Value} {lc l : Addr} {news own : List (Addr × Obj)} {m₀ m' : PySem.Str → Option Value} {h₀ h' : Heap} {L : Addr} {nn tk i : Nat} {adr : List Addr} {s₁ : Shared}
    (F : Fr h₀ L h' m') (N : News h₀ L h' (((lc, listOf us.toArray nn) :: (l, listOf vs.toArray 0) :: news) ++ own)) (ha : lc :: l :: news.map (·.1) = adr) (hm : ∀ z, z ≠ Str.ofString "i" → z ≠ Str.ofString "part" → m' z = m₀ z) (hs : CleanS b i us) (hl : us.length = i) :
    InvEndN h₀ L (EnumJ b vs lc l news m₀ i) own adr s₁ { s₁ with heap := h', toks := tk } :=
  InvEndN.intro F N ⟨us, nn, rfl, hs, hl, hm⟩ ha (fun p hp => List.mem_append.mpr (.inl hp)) (fun p hp => List.mem_append.mpr (.inr hp))
theorem lt_all {l lc : Addr} {o : Obj} {news : List (Addr × Obj)} (h : @LT.lt Nat _ l lc ∧ AllLt lc news) : ∀ p ∈ (l, o) :: news, p.1 < lc := by
  intro p hp
  rcases List.mem_cons.mp hp with rfl | hp
  · exact h.1
  · exact kst_ltOf h.2 p hp

/-! one statement by itself: what it leaves, then the rest -/
def Joined (h₀ : Heap) (L : Addr) (s : Shared) (P : (PySem.Str → Option Value) → List (Addr × Obj) → Prop) (f : Flow) (s' : Shared) : Prop :=
  f = .next ∧ ∃ h' tk m' news', s' = { s with heap := h', toks := tk } ∧ P m' news' ∧ Fr h₀ L h' m' ∧ News h₀ L h' news'
theorem Joined.mk {h₀ h' : Heap} {L : Addr} {s : Shared} {P : (PySem.Str → Option Value) → List (Addr × Obj) → Prop} {m' : PySem.Str → Option Value} {all news' : List (Addr × Obj)} {tk : Nat} (F : Fr h₀ L h' m') (N : News h₀ L h' all) (hp : P m' news') (hs : ∀ p ∈ news', p ∈ all) :
    Joined h₀ L s P .next { s with heap := h', toks := tk } := ⟨rfl, h', tk, m', news', rfl, hp, F, fun p h => N p (hs p h)⟩
theorem stmt_step {M : Model} {A : Around} {E : Value → Shared → Prop} {s : Shared} {env : Env} {stmt : Stmt} {rest : List Stmt} {Q : Flow → Shared → Prop} {h₀ : Heap} {L : Addr} (P : (PySem.Str → Option Value) → List (Addr × Obj) → Prop)
    (h1 : wpAny M A (exec stmt env) (Joined h₀ L s P) E s) (h2 : ∀ h' tk m' news', P m' news' → Fr h₀ L h' m' → News h₀ L h' news' → wpAny M A (execs rest env) Q E { s with heap := h', toks := tk }) : wpAny M A (execs (stmt :: rest) env) Q E s := by
  refine wpAny_execs_cons (wpAny_mono h1 (fun f s' hj => ?_) fun _ _ e => e)
  obtain ⟨rfl, h', tk, m', news', rfl, hp, F, N⟩ := hj
  exact h2 h' tk m' news' hp F N

theorem set_step {M : Model} {A : Around} {E : Value → Shared → Prop} {s : Shared} {env : Env} {stmt : Stmt} {rest : List Stmt} {Q : Flow → Shared → Prop} {h₀ : Heap} {L : Addr} {m : PySem.Str → Option Value} {news : List (Addr × Obj)} (x : PySem.Str) (V : Value → Prop) (_F : Fr h₀ L s.heap m) (_N : News h₀ L s.heap news)
    (h1 : wpAny M A (exec stmt env) (Joined h₀ L s fun m' nw => nw = news ∧ ∃ v, V v ∧ m' = fun y => if y = x then some v else m y) E s) (h2 : ∀ h' tk v, V v → Fr h₀ L h' (fun y => if y = x then some v else m y) → News h₀ L h' news → wpAny M A (execs rest env) Q E { s with heap := h', toks := tk }) : wpAny M A (execs (stmt :: rest) env) Q E s := by
  refine stmt_step _ h1 fun h' tk m' news' hp F N => ?_
  obtain ⟨rfl, v, hv, rfl⟩ := hp
  exact h2 h' tk v hv F N
theorem set_fin {h₀ h' : Heap} {L : Addr} {s : Shared} {m : PySem.Str → Option Value} {all news : List (Addr × Obj)} {tk : Nat} {x : PySem.Str} {V : Value → Prop} {v : Value} (F : Fr h₀ L h' (fun y => if y = x then some v else m y)) (N : News h₀ L h' all) (hv : V v) (hs : ∀ p ∈ news, p ∈ all) :
    Joined h₀ L s (fun m' nw => nw = news ∧ ∃ v, V v ∧ m' = fun y => if y = x then some v else m y) .next { s with heap := h', toks := tk } := Joined.mk F N ⟨rfl, v, hv, rfl⟩ hs

section
variable {prog : Program} {w : World} {A : Around} {E : Value → Shared → Prop} {s : Shared} {h₀ : Heap} {L : Addr} {m : PySem.Str → Option Value} {news : List (Addr × Obj)}
theorem bytes_one {D : Addr} {x : Int} {t : Tok} {Q : Value → Shared → Prop} (F : Fr h₀ L s.heap m) (N : News h₀ L s.heap news) (hh : A.handled = none) (hl : s.heap.IsList D [Value.int x t].toArray) (h0 : 0 ≤ x) (h1 : x < 256)
    (h : ∀ h' t' k, Fr h₀ L h' m → News h₀ L h' news → Q (.bytes [x.toNat.toUInt8].toArray t') { s with heap := h', toks := k }) : wpAny (model prog w) A (call (.type "bytes") [.ref D]) Q E s :=
  KBa.make_K F N hh hl (vs := [.int x t]) (ns := [x]) (.cons x t .nil) (fun n hn => by rw [List.mem_singleton.mp hn]; exact ⟨h0, h1⟩) (by simp) fun h' t' k F' N' _ => h h' t' k F' N'
end
def rowB (c : Nat) (x : UInt8) : Array UInt8 := (List.replicate c [x]).flatten.toArray
theorem rowB_list (c : Nat) (x : UInt8) : (rowB c x).toList = List.replicate c x := by
  unfold rowB
  induction c with
  | zero => rfl
  | succ c ih =>
    simp only [List.replicate_succ, List.flatten_cons] at ih ⊢
    simp [ih]
theorem rowB_size (c : Nat) (x : UInt8) : (rowB c x).size = c := by
  rw [← Array.length_toList, rowB_list, List.length_replicate]
def RowV (v : Value) : Prop := ∃ (x : UInt8) (c : Nat) (t : Tok), v = .bytes (rowB c x) t ∧ 128 ≤ x.toNat ∧ 0 < c ∧ c ≤ 9000
theorem rowV_mk {k n : Int} {t : Tok} (h0 : 128 ≤ k) (h1 : k < 256) (hn : 1 ≤ n) (hn2 : n ≤ 9000) : RowV (.bytes (List.replicate n.toNat [k.toNat.toUInt8]).flatten.toArray t) := by
  refine ⟨k.toNat.toUInt8, n.toNat, t, rfl, ?_, by omega, by omega⟩
  have := byte_back (n := k) (by omega) h1
  omega

/-! the law's own loop -/
abbrev LoopC := Array UInt8 × Nat × Array UInt8 × Nat
def loopPs (c : LoopC) : List (PySem.Str × Value) := [(Str.ofString "head", .bytes c.1 c.2.1), (Str.ofString "tail", .bytes c.2.2.1 c.2.2.2)]
def LoopP (pre : List Int) (c : LoopC) : Prop := c.1.size ≤ 6 * pre.length ∧ c.2.2.1.size ≤ 6 * pre.length
abbrev loopMap (u m : PySem.Str → Option Value) (c : LoopC) : PySem.Str → Option Value := fun y => if y = Str.ofString "k" then u y else kstB (fun z => if [Str.ofString "m", Str.ofString "piece"].contains z then u z else m z) (loopPs c) y
theorem loop_step {M : Model} {A : Around} {E : Value → Shared → Prop} {s : Shared} {env : Env} {stmt : Stmt} {rest : List Stmt} {Q : Flow → Shared → Prop} {h₀ : Heap} {L : Addr} {m : PySem.Str → Option Value} {news : List (Addr × Obj)} (_F : Fr h₀ L s.heap m) (_N : News h₀ L s.heap news)
    (h1 : wpAny M A (exec stmt env) (Joined h₀ L s fun m' nw => nw = news ∧ ∃ (u : PySem.Str → Option Value) (c : LoopC), c.1.size ≤ 100 ∧ c.2.2.1.size ≤ 100 ∧ m' = loopMap u m c) E s)
    (h2 : ∀ h' tk u c, c.1.size ≤ 100 → c.2.2.1.size ≤ 100 → Fr h₀ L h' (loopMap u m c) → News h₀ L h' news → wpAny M A (execs rest env) Q E { s with heap := h', toks := tk }) : wpAny M A (execs (stmt :: rest) env) Q E s := by
  refine stmt_step _ h1 fun h' tk m' news' hp F N => ?_
  obtain ⟨rfl, u, c, ha, hb, rfl⟩ := hp
  exact h2 h' tk u c ha hb F N

def PieceV (v : Value) : Prop := ∃ (p : List UInt8) (t : Tok), v = .bytes p.toArray t ∧ p ≠ [] ∧ p.length ≤ 2
def PieceW (v : Value) : Prop := ∃ (p : Array UInt8) (t : Tok), v = .bytes p t ∧ p.size ≤ 6
theorem pieceV_mk {p : List UInt8} {t : Tok} (h1 : p ≠ []) (h2 : p.length ≤ 2) : PieceV (.bytes p.toArray t) := ⟨p, t, rfl, h1, h2⟩
theorem pieceW_mk {p : List UInt8} {t : Tok} {n : Int} (h1 : p.length ≤ 2) (h2 : n ≤ 3) : PieceW (.bytes (List.replicate n.toNat p).flatten.toArray t) := by
  refine ⟨_, t, rfl, ?_⟩
  have e : (List.replicate n.toNat p).flatten.toArray.size = n.toNat * p.length := by simp
  rw [e]
  have h3 : n.toNat * p.length ≤ 3 * p.length := Nat.mul_le_mul_right _ (by omega)
  omega
theorem loop_fin {h₀ h' : Heap} {L : Addr} {m₀ m' : PySem.Str → Option Value} {own all : List (Addr × Obj)} {adr : List Addr} {pre : List Int} {s₁ : Shared} {tk : Nat} {h t : Array UInt8} {th tt : Tok} (F : Fr h₀ L h' m') (N : News h₀ L h' all) (ho : ∀ p ∈ own, p ∈ all) (ha : ([] : List Addr) = adr)
    (hh : m' (Str.ofString "head") = some (.bytes h th)) (ht : m' (Str.ofString "tail") = some (.bytes t tt)) (hr : ∀ z, z ≠ Str.ofString "k" → z ≠ Str.ofString "head" → z ≠ Str.ofString "tail" → z ≠ Str.ofString "m" → z ≠ Str.ofString "piece" → m' z = m₀ z) (hp1 : h.size ≤ 6 * pre.length) (hp2 : t.size ≤ 6 * pre.length) :
    InvEndN h₀ L (KstS (fun _ : LoopC => []) loopPs (fun _ => True) (Str.ofString "k") [Str.ofString "m", Str.ofString "piece"] m₀ LoopP pre) own adr s₁ { s₁ with heap := h', toks := tk } :=
  kst_end (h, th, t, tt) F N (fun _ hp => nomatch hp) ho ha trivial (List.forall_mem_cons.mpr ⟨hh, List.forall_mem_cons.mpr ⟨ht, List.forall_mem_nil _⟩⟩)
    (fun z hz hn hs => by
      have h1 := hn _ (List.mem_cons_self ..)
      have h2 := hn _ (List.mem_cons_of_mem _ (List.mem_cons_self ..))
      simp only [List.contains_cons, List.contains_nil, Bool.or_false, Bool.or_eq_false_iff, beq_eq_false_iff_ne, ne_eq] at hs
      exact hr z hz h1 h2 hs.1 hs.2) ⟨hp1, hp2⟩
theorem loop_map {h₀ h : Heap} {L : Addr} {u m : PySem.Str → Option Value} {c : LoopC} {x : Option Value} (F : Fr h₀ L h (fun y => if y = Str.ofString "k" then x else kstB (fun z => if [Str.ofString "m", Str.ofString "piece"].contains z then u z else m z) (loopPs c) y)) :
    Fr h₀ L h (fun y => if y = Str.ofString "k" then x else if y = Str.ofString "head" then some (.bytes c.1 c.2.1) else if y = Str.ofString "tail" then some (.bytes c.2.2.1 c.2.2.2) else if y = Str.ofString "m" then u (Str.ofString "m") else if y = Str.ofString "piece" then u (Str.ofString "piece") else m y) := by
  have e : (fun y => if y = Str.ofString "k" then x else kstB (fun z => if [Str.ofString "m", Str.ofString "piece"].contains z then u z else m z) (loopPs c) y) = (fun y => if y = Str.ofString "k" then x else if y = Str.ofString "head" then some (.bytes c.1 c.2.1) else if y = Str.ofString "tail" then some (.bytes c.2.2.1 c.2.2.2) else if y = Str.ofString "m" then u (Str.ofString "m") else if y = Str.ofString "piece" then u (Str.ofString "piece") else m y) := by
    funext y
    simp only [kstB, loopPs, List.contains_cons, List.contains_nil, Bool.or_false, Bool.or_eq_true, beq_iff_eq]
    by_cases h1 : y = Str.ofString "m"
    · subst h1; simp
    · by_cases h2 : y = Str.ofString "piece"
      · subst h2; simp [h1]
      · simp [h1, h2]
  rw [← e]; exact F

theorem menu3 {prog : Program} {w : World} {A : Around} {E : Value → Shared → Prop} {s : Shared} {value slice : PySem.Expr} {l : Addr} {a b c : Value} {i : Int} {u : Tok} {Q : Value → Shared → Prop} (hl : s.heap.IsList l [a, b, c].toArray) (h0 : 0 ≤ i) (h1 : i < 3) (ha : PieceV a) (hb : PieceV b) (hc : PieceV c)
    (h : ∀ v, PieceV v → Q v s)
    (hs : subscripted slice false (.ref l) (.int i u) = operate [.ref l, .int i u] (getItem (.ref l) (.int i u)) := by with_unfolding_all rfl) :
    wpAny (model prog w) A (subscriptTail value slice (.ref l) (.int i u)) Q E s := by
  have hi : i = 0 ∨ i = 1 ∨ i = 2 := by omega
  have hv : ∃ v, [a, b, c].toArray[i.toNat]? = some v ∧ PieceV v := by
    rcases hi with rfl | rfl | rfl
    · exact ⟨a, rfl, ha⟩
    · exact ⟨b, rfl, hb⟩
    · exact ⟨c, rfl, hc⟩
  obtain ⟨v, hx, hv⟩ := hv
  exact tail_any hl.typeIs slot_list_getitem.lookup (wpAny_getItem_list hl h0 (by omega) hx (h v hv)) hs

theorem noI_bytes_add : typeLookup (.type "bytes") (dunderI "add") = pure none := by rw [typeLookup_type, builtinLookup_eq_fast]; kernel_rfl
theorem iadd_bytes {prog : Program} {w : World} {A : Around} {E : Value → Shared → Prop} {s : Shared} {b c : Array UInt8} {t u : Tok} {Q : Value → Shared → Prop} (hsz : b.size + c.size ≤ 16777216) (h : ∀ t' k, Q (.bytes (b ++ c) t') { s with toks := k }) : wpAny (model prog w) A (inplaceOp .Add (.bytes b t) (.bytes c u)) Q E s := by
  refine iconcat_gives (typeIs_bytes s b t) (typeIs_bytes s c u) noI_bytes_add KBy.noFill_bytes_add KBy.seq_bytes_add FB.slot_bytes_add FB.entry_bytes_add (FB.args_bytes_add_2 _ _) (KBy.gives_bytes_add (KBy.tooLong_not hsz)) ?_
  by_cases hb : b.isEmpty = true
  · rw [if_pos hb]
    have e : b = #[] := Array.isEmpty_iff.1 hb
    have h' := h u s.toks
    rw [e, Array.empty_append] at h'
    exact h'
  · rw [if_neg hb]
    by_cases hc : c.isEmpty = true
    · rw [if_pos hc]
      have e : c = #[] := Array.isEmpty_iff.1 hc
      have h' := h t s.toks
      rw [e, Array.append_empty] at h'
      exact h'
    · rw [if_neg hc]
      exact ⟨by rw [Array.size_append, sizeLine_eq]; exact hsz, h s.toks (s.toks + 1)⟩

theorem loop_map0 {h₀ h : Heap} {L : Addr} {u m : PySem.Str → Option Value} {c : LoopC} (F : Fr h₀ L h (loopMap u m c)) :
    Fr h₀ L h (fun y => if y = Str.ofString "k" then u (Str.ofString "k") else if y = Str.ofString "head" then some (.bytes c.1 c.2.1) else if y = Str.ofString "tail" then some (.bytes c.2.2.1 c.2.2.2) else if y = Str.ofString "m" then u (Str.ofString "m") else if y = Str.ofString "piece" then u (Str.ofString "piece") else m y) := by
  have e : loopMap u m c = fun y => if y = Str.ofString "k" then u (Str.ofString "k") else kstB (fun z => if [Str.ofString "m", Str.ofString "piece"].contains z then u z else m z) (loopPs c) y := by
    funext y
    by_cases h1 : y = Str.ofString "k"
    · subst h1; simp [loopMap]
    · simp [loopMap, h1]
  rw [e] at F
  exact loop_map F

theorem use_C {prog : Program} {w : World} {K : Frag} {p : Program} {lse : List PySem.Str} {mean : ExcName → Option Value} {mg mb : PySem.Str → Option Value} {f : Addr} {news : List (Addr × Obj)} {v : Value} {R : Tok → Value} (C : CbClaim prog w K p lse mean mg mb f news [] True [v] R)
    {dp un : Nat} {gd : Option (List Code)} {cn : PySem.Str} {cs : Scope} {a : Addr} {ccd : Value} {cl : List (PySem.Str × Addr)} {outer : List Env} {A₀ : Around} {base h₀ : Heap} {L : Addr} {m : PySem.Str → Option Value} {s : Shared} {Q E : Value → Shared → Prop}
    (B : Below A₀ base outer h₀) (F : Fr h₀ L s.heap m) (X : K.In h₀) (N : News h₀ L s.heap news) (T : Top p lse mean mg mb h₀) (hk : cs.kind = .function) (hd : dp + 1 < recursionLimit) (hu : un + 8 < cLine)
    (h : ∀ t h' tk', Fr h₀ L h' m → News h₀ L h' news → Q (R t) { s with heap := h', toks := tk' }) : wpAny (model prog w) (ktrTop dp un gd cn cs L a ccd cl outer) (call (.ref f) [v]) Q E s :=
  C dp un gd cn cs a ccd cl outer A₀ base h₀ L m s Q E B F X N T hk trivial hd hu h

theorem short_parts (h t : Array UInt8) (x : UInt8) (n : Nat) (hn : 0 < n) (h10 : x ≠ 10) (h13 : x ≠ 13) : shortB (h ++ rowB n x ++ t) = shortB h ++ rowB n x ++ shortB t := by
  apply Array.ext'
  simp only [shortB, Array.toList_append, rowB_list]
  rw [short_all _ _ x n hn h10 h13]
theorem long_parts (h t : Array UInt8) (x : UInt8) (n : Nat) (hn : 0 < n) (h10 : x ≠ 10) (h13 : x ≠ 13) : longB (h ++ rowB n x ++ t) = longB h ++ rowB n x ++ longB t := by
  apply Array.ext'
  simp only [longB, Array.toList_append, rowB_list]
  rw [long_all _ _ x n hn h10 h13]
/-! a statement that leaves all as it was -/
theorem skip_step {M : Model} {A : Around} {E : Value → Shared → Prop} {s : Shared} {env : Env} {stmt : Stmt} {rest : List Stmt} {Q : Flow → Shared → Prop} {h₀ : Heap} {L : Addr} {m : PySem.Str → Option Value} {news : List (Addr × Obj)} (_F : Fr h₀ L s.heap m) (_N : News h₀ L s.heap news)
    (h1 : wpAny M A (exec stmt env) (Joined h₀ L s fun m' nw => nw = news ∧ m' = m) E s)
    (h2 : ∀ h' tk, Fr h₀ L h' m → News h₀ L h' news → wpAny M A (execs rest env) Q E { s with heap := h', toks := tk }) : wpAny M A (execs (stmt :: rest) env) Q E s := by
  refine stmt_step _ h1 fun h' tk m' news' hp F N => ?_
  obtain ⟨rfl, rfl⟩ := hp
  exact h2 h' tk F N
theorem skip_fin {h₀ h' : Heap} {L : Addr} {s : Shared} {m : PySem.Str → Option Value} {all news : List (Addr × Obj)} {tk : Nat} (F : Fr h₀ L h' m) (N : News h₀ L h' all) (hs : ∀ p ∈ news, p ∈ all) :
    Joined h₀ L s (fun m' nw => nw = news ∧ m' = m) .next { s with heap := h', toks := tk } := Joined.mk F N ⟨rfl, rfl⟩ hs
theorem ne_same {prog : Program} {w : World} {A : Around} {E : Value → Shared → Prop} {s : Shared} {b : Array UInt8} {t u : Tok} {Q : Value → Shared → Prop} (h : Q (.bool false) s) : wpAny (model prog w) A (compareOp .NotEq (.bytes b t) (.bytes b u)) Q E s :=
  ne_bytes (by rw [bne_self_eq_false]; exact h)

theorem binV_lo {b : Array UInt8} (h : ¬ findInt b #[0] ≥ 0) : Value.bool false = Value.bool (binB b) := by
  rw [bin_eq, decide_eq_false h]; rfl
theorem binV_hi {b : Array UInt8} (h : findInt b #[0] ≥ 0) : Value.bool (decide (findInt b #[0] < 8000)) = Value.bool (binB b) := by
  rw [bin_eq, decide_eq_true h]; rfl
def IdxV (v : Value) : Prop := v = .none ∨ v = .bool true ∨ v = .bool false
theorem menuI {prog : Program} {w : World} {A : Around} {E : Value → Shared → Prop} {s : Shared} {value slice : PySem.Expr} {l : Addr} {i : Int} {u : Tok} {Q : Value → Shared → Prop} (hl : s.heap.IsList l [Value.none, Value.bool true, Value.bool false].toArray) (h0 : 0 ≤ i) (h1 : i < 3)
    (h : ∀ v, IdxV v → Q v s)
    (hs : subscripted slice false (.ref l) (.int i u) = operate [.ref l, .int i u] (getItem (.ref l) (.int i u)) := by with_unfolding_all rfl) :
    wpAny (model prog w) A (subscriptTail value slice (.ref l) (.int i u)) Q E s := by
  have hi : i = 0 ∨ i = 1 ∨ i = 2 := by omega
  have hv : ∃ v, [Value.none, Value.bool true, Value.bool false].toArray[i.toNat]? = some v ∧ IdxV v := by
    rcases hi with rfl | rfl | rfl
    · exact ⟨_, rfl, .inl rfl⟩
    · exact ⟨_, rfl, .inr (.inl rfl)⟩
    · exact ⟨_, rfl, .inr (.inr rfl)⟩
  obtain ⟨v, hx, hv⟩ := hv
  exact tail_any hl.typeIs slot_list_getitem.lookup (wpAny_getItem_list hl h0 (by omega) hx (h v hv)) hs

theorem binV_lo' {b : Array UInt8} (h : ¬ 0 ≤ findInt b #[0]) : Value.bool (decide (0 ≤ findInt b #[0])) = Value.bool (binB b) := by
  rw [← binV_lo (show ¬ findInt b #[0] ≥ 0 from h), decide_eq_false h]
theorem isnot_same {M : Model} {A : Around} {E : Value → Shared → Prop} {s : Shared} {x : Bool} {Q : Value → Shared → Prop} (h : Q (.bool false) s) : wpAny M A (compareOp .IsNot (.bool x) (.bool x)) Q E s := by
  refine wpAny_of_eq (a := .bool false) ?_ h
  cases x <;> kernel_rfl
theorem short_none {b : Array UInt8} (h : (Builtin.Bytes.find? b #[13, 10] 0 b.size).isSome = false) : shortB b = b := by
  unfold shortB
  rw [find_none_short b h]
theorem ne_by {prog : Program} {w : World} {A : Around} {E : Value → Shared → Prop} {s : Shared} {b c : Array UInt8} {t u : Tok} {Q : Value → Shared → Prop} (e : b = c) (h : Q (.bool false) s) : wpAny (model prog w) A (compareOp .NotEq (.bytes b t) (.bytes c u)) Q E s := by
  subst e
  exact ne_same h
section
variable {prog : Program} {w : World} {A : Around} {E : Value → Shared → Prop} {s : Shared} {env : Env} {h₀ : Heap} {x : PySem.Str} {body : List Stmt} {Q : Flow → Shared → Prop}
theorem iter_vals {l : Addr} {vs : List Value} {nn : Nat} {m₀ : PySem.Str → Option Value} {news : List (Addr × Obj)} (J : Nat → (PySem.Str → Option Value) → List (Addr × Obj) → Prop)
    (hh : A.handled = none) (hl : (l, listOf vs.toArray nn) ∈ news) (F : Fr h₀ env.locals s.heap m₀) (N : News h₀ env.locals s.heap news) (hj : J 0 m₀ news) (hJl : ∀ i m nx, J i m nx → (l, listOf vs.toArray nn) ∈ nx)
    (turn : ∀ i v m₁ news₁ h tk own, vs[i]? = some v → news₁.map (·.1) = news.map (·.1) → OwnOff own (news.map (·.1)) → J i m₁ news₁ → Fr h₀ env.locals h (fun y => if y = x then some v else m₁ y) → News h₀ env.locals h (news₁ ++ own) →
      wpAny (model prog w) A (execs body env) (InvPostN h₀ env.locals (J (i + 1)) own (news.map (·.1)) { s with heap := h, toks := tk } Q) E { s with heap := h, toks := tk })
    (done : ∀ m₁ news₁ h tk, J vs.length m₁ news₁ → Fr h₀ env.locals h m₁ → News h₀ env.locals h news₁ → Q .next { s with heap := h, toks := tk }) :
    wpAny (model prog w) A (pyIter (.ref l)) (fun it s₂ => LoopAtV prog w A h₀ env x body Q E it s₂) E s := by
  have hol : s.heap.get? l = some (listOf vs.toArray nn) := (N _ hl).1
  have hls : s.heap.IsList l vs.toArray := ⟨_, hol, rfl, nn, rfl⟩
  have hne : l ≠ s.heap.objs.size := Nat.ne_of_lt (Heap.lt_size hol)
  refine wpAny_pyIter_list hls ?_
  have W := Walks.list (prog := prog) (w := w) hh s.heap.objs.size l hne vs.toArray
  have hlen : vs.toArray.size = vs.length := by simp
  rw [hlen] at W
  refine ⟨_, _, _, vs.length, _, _, m₀, news, (fun i m nx => nx.map (·.1) = news.map (·.1) ∧ J i m nx), rfl, W, ?_, ?_, ?_, ⟨⟨_, Heap.get?_push_size _ rfl, rfl, rfl⟩, hls.at fun o e => Heap.get?_push_of_some _ e⟩, F.push _, (fun p hp => ⟨Heap.get?_push_of_some _ (N p hp).1, (N p hp).2⟩), ⟨rfl, hj⟩, ?_, ?_⟩
  · intro hm
    rcases List.mem_cons.mp hm with e | hm
    · exact absurd F.ns.lt (e ▸ Nat.lt_irrefl _)
    · exact (N _ hl).2.1 ((List.mem_singleton.mp hm).symm)
  · intro b hb
    rw [List.mem_singleton.mp hb]
    exact next_is_new F
  · intro p hp hI
    exact absurd (Heap.lt_size (N p hp).1) ((List.mem_singleton.mp hI) ▸ Nat.lt_irrefl _)
  · rintro i v m₁ news₁ s₁ own ⟨hh', tk', rfl⟩ hin hP ⟨hadr, hJ⟩ hoff hown hget hfp _ F₁ N₁
    have hl₁ := hJl i m₁ news₁ hJ
    have hsep : OwnOff (own.filter fun p => decide (p.1 = s.heap.objs.size)) (news.map (·.1)) := by
      intro p hp b hb e
      obtain ⟨q, hq, rfl⟩ := List.mem_map.mp hb
      have h1 : p.1 = s.heap.objs.size := by simpa using (List.mem_filter.mp hp).2
      exact absurd (Heap.lt_size (N q hq).1) (by rw [← e, h1]; exact Nat.lt_irrefl _)
    have hx : vs[i]? = some v := by simpa using hP
    have N₂ : News h₀ env.locals hh' (news₁ ++ own.filter fun p => decide (p.1 = s.heap.objs.size)) := fun p hp => N₁ p ((List.mem_append.mp hp).elim (fun h => List.mem_append.mpr (.inr h)) fun h => List.mem_append.mpr (.inl ((List.mem_filter.mp h).1)))
    have hlo : hh'.get? l = some (listOf vs.toArray nn) := (N₁ _ (List.mem_append.mpr (.inr hl₁))).1
    refine wpAny_mono (turn i v m₁ news₁ hh' tk' _ hx hadr hsep hJ F₁ N₂) (fun f s₂ p => ?_) fun _ _ e => e
    have fin : InvEndN h₀ env.locals (J (i + 1)) (own.filter fun p => decide (p.1 = s.heap.objs.size)) (news.map (·.1)) { s with heap := hh', toks := tk' } s₂ →
        LoopStepU h₀ env.locals [s.heap.objs.size] own (fun m nx => nx.map (·.1) = news.map (·.1) ∧ J (i + 1) m nx) { s with heap := hh', toks := tk' } .next s₂ := by
      rintro ⟨h', tk, m', news', nx, e, F', N', hn, ho, ha, hm⟩
      refine ⟨rfl, h', tk, m', nx, e, F', fun p hp => ?_, fun p hp => ?_, ha, hm⟩
      · rcases List.mem_append.mp hp with h | h
        · by_cases hI : p.1 = s.heap.objs.size
          · exact N' p (ho p (List.mem_filter.mpr ⟨h, by simpa using hI⟩))
          · have h1 : p.1 = l := by
              rcases List.mem_cons.mp (hown p h) with h2 | h2
              · exact absurd h2 hI
              · exact List.mem_singleton.mp h2
            have h2 : hh'.get? p.1 = some p.2 := hget p h
            rw [h1, hlo] at h2
            have h3 : p = (l, listOf vs.toArray nn) := Prod.ext h1 (Option.some.inj h2).symm
            rw [h3]
            exact N' _ (hn _ (hJl _ _ _ hm))
        · exact N' p (hn p h)
      · have h1 : p.1 ∈ nx.map (·.1) := List.mem_map.mpr ⟨p, hp, rfl⟩
        rw [ha] at h1
        obtain ⟨q, hq, e⟩ := List.mem_map.mp h1
        intro hI
        exact absurd (Heap.lt_size (N q hq).1) (by rw [e, List.mem_singleton.mp hI]; exact Nat.lt_irrefl _)
    cases f with
    | ret v => exact .ret p
    | brk => exact .brk p
    | next => exact .next (fin p)
    | cont => exact .cont (fin p)
  · rintro h' tk m' news' F' N' _ ⟨_, hJ⟩
    exact done m' news' h' tk hJ F' N'
end

/-! the loop over the actions -/
def ActJ (nw : List (Addr × Obj)) (m₀ : PySem.Str → Option Value) (_i : Nat) (m : PySem.Str → Option Value) (nx : List (Addr × Obj)) : Prop :=
  nx = nw ∧ ∀ z, z ≠ Str.ofString "action" → z ≠ Str.ofString "guess" → z ≠ Str.ofString "out" → z ≠ Str.ofString "made" → m z = m₀ z
theorem act_map {h₀ h : Heap} {L : Addr} {m₀ m : PySem.Str → Option Value} {v : Option Value} (hm : ∀ z, z ≠ Str.ofString "action" → z ≠ Str.ofString "guess" → z ≠ Str.ofString "out" → z ≠ Str.ofString "made" → m z = m₀ z) (F : Fr h₀ L h (fun y => if y = Str.ofString "action" then v else m y)) :
    Fr h₀ L h (fun z => if z = Str.ofString "action" then v else if z = Str.ofString "guess" then m (Str.ofString "guess") else if z = Str.ofString "out" then m (Str.ofString "out") else if z = Str.ofString "made" then m (Str.ofString "made") else m₀ z) := by
  have e : (fun z => if z = Str.ofString "action" then v else if z = Str.ofString "guess" then m (Str.ofString "guess") else if z = Str.ofString "out" then m (Str.ofString "out") else if z = Str.ofString "made" then m (Str.ofString "made") else m₀ z) = fun y => if y = Str.ofString "action" then v else m y := by
    funext z
    by_cases h1 : z = Str.ofString "action"
    · rw [if_pos h1, if_pos h1]
    · rw [if_neg h1, if_neg h1]
      by_cases h2 : z = Str.ofString "guess"
      · rw [if_pos h2, h2]
      · rw [if_neg h2]
        by_cases h3 : z = Str.ofString "out"
        · rw [if_pos h3, h3]
        · rw [if_neg h3]
          by_cases h4 : z = Str.ofString "made"
          · rw [if_pos h4, h4]
          · rw [if_neg h4]; exact (hm z h1 h2 h3 h4).symm
  rw [e]; exact F
theorem act_fin {nw own all : List (Addr × Obj)} {m₀ m' : PySem.Str → Option Value} {h₀ h' : Heap} {L : Addr} {tk i : Nat} {adr : List Addr} {s₁ : Shared}
    (F : Fr h₀ L h' m') (N : News h₀ L h' all) (hn : ∀ p ∈ nw, p ∈ all) (ho : ∀ p ∈ own, p ∈ all) (ha : nw.map (·.1) = adr) (hm : ∀ z, z ≠ Str.ofString "action" → z ≠ Str.ofString "guess" → z ≠ Str.ofString "out" → z ≠ Str.ofString "made" → m' z = m₀ z) :
    InvEndN h₀ L (ActJ nw m₀ i) own adr s₁ { s₁ with heap := h', toks := tk } := InvEndN.intro F N ⟨rfl, hm⟩ ha hn ho

theorem any_step {M : Model} {A : Around} {E : Value → Shared → Prop} {s : Shared} {env : Env} {stmt : Stmt} {rest : List Stmt} {Q : Flow → Shared → Prop} {h₀ : Heap} {L : Addr} {m : PySem.Str → Option Value} {news : List (Addr × Obj)} (P : (PySem.Str → Option Value) → List (Addr × Obj) → (PySem.Str → Option Value) → List (Addr × Obj) → Prop) (_F : Fr h₀ L s.heap m) (_N : News h₀ L s.heap news)
    (h1 : wpAny M A (exec stmt env) (Joined h₀ L s (P m news)) E s) (h2 : ∀ h' tk m' news', P m news m' news' → Fr h₀ L h' m' → News h₀ L h' news' → wpAny M A (execs rest env) Q E { s with heap := h', toks := tk }) : wpAny M A (execs (stmt :: rest) env) Q E s := stmt_step _ h1 h2

abbrev fltD (P : Params) (k1 k2 k3 k4 k5 k6 ts : Tok) (sm : Value) (lf : Bool) (ix : Value) : Obj :=
  dictOf [{ hash := PyData.keyHash P (Str.ofString "clean_conversion"), key := .str (Str.ofString "clean_conversion") k1, val := .bool true },
    { hash := PyData.keyHash P (Str.ofString "smudge_conversion"), key := .str (Str.ofString "smudge_conversion") k2, val := sm },
    { hash := PyData.keyHash P (Str.ofString "binary_detection"), key := .str (Str.ofString "binary_detection") k3, val := .bool true },
    { hash := PyData.keyHash P (Str.ofString "safecrlf"), key := .str (Str.ofString "safecrlf") k4, val := .bytes #[102, 97, 108, 115, 101] ts },
    { hash := PyData.keyHash P (Str.ofString "require_lf_only"), key := .str (Str.ofString "require_lf_only") k5, val := .bool lf },
    { hash := PyData.keyHash P (Str.ofString "index_has_crlf"), key := .str (Str.ofString "index_has_crlf") k6, val := ix }] 6
def MadeP (P : Params) (sm : Value) (lf : Bool) (ix : Value) (m : PySem.Str → Option Value) (news : List (Addr × Obj)) (m' : PySem.Str → Option Value) (news' : List (Addr × Obj)) : Prop :=
  ∃ (x d : Addr) (k1 k2 k3 k4 k5 k6 ts : Tok), news' = (x, instObj 92 d) :: (d, fltD P k1 k2 k3 k4 k5 k6 ts sm lf ix) :: news ∧ m' = fun y => if y = Str.ofString "made" then some (.ref x) else m y

abbrev actM (a g o d : Option Value) (m : PySem.Str → Option Value) : PySem.Str → Option Value := fun z => if z = Str.ofString "action" then a else if z = Str.ofString "guess" then g else if z = Str.ofString "out" then o else if z = Str.ofString "made" then d else m z
theorem actM_fr {h₀ h : Heap} {L : Addr} {m₀ m : PySem.Str → Option Value} (hm : ∀ z, z ≠ Str.ofString "action" → z ≠ Str.ofString "guess" → z ≠ Str.ofString "out" → z ≠ Str.ofString "made" → m z = m₀ z) (F : Fr h₀ L h m) :
    Fr h₀ L h (actM (m (Str.ofString "action")) (m (Str.ofString "guess")) (m (Str.ofString "out")) (m (Str.ofString "made")) m₀) := by
  refine act_map hm (v := m (Str.ofString "action")) ?_
  have e : (fun y => if y = Str.ofString "action" then m (Str.ofString "action") else m y) = m := by
    funext y
    by_cases h1 : y = Str.ofString "action"
    · rw [if_pos h1, h1]
    · rw [if_neg h1]
  rw [e]; exact F
end Mine

/-! PART 3: the top's run -/
namespace Mine
set_option maxRecDepth 100000 in
set_option maxHeartbeats 8000000 in
open_top hd for PySem.Challenge.rw_jg0022_01
end Mine

/-! PART 4: lines for the walk; each function walked once -/
local macro_rules | `(tactic| walk_at "getMethod bytes") => `(tactic| (k_here; (first | with_reducible refine Mine.meth_find ?_ | with_reducible refine Mine.meth_replace ?_ | with_reducible refine Mine.meth_split ?_ | with_reducible refine Mine.meth_join ?_ | with_reducible refine Mine.meth_endswith ?_)))
local macro_rules | `(tactic| walk_at "compareOp In bytes bytes") => `(tactic| (k_here; (with_reducible show wpAny _ _ (compareOp CmpOp.In (Value.bytes _ _) (Value.bytes _ _)) _ _ _); k_dflt (refine' Mine.in_bytes ?k1 ?k2 ?k3 ?_; (case k1 => k_asm); (case k2 => k_asm); (case k3 => rfl); k_whole); intro h' tk' F' N'))

local macro_rules | `(tactic| walk_at "subscriptTail") => `(tactic| (k_here; (with_reducible show wpAny _ _ (subscriptTail _ (Expr.Slice _ _ none _) (Value.bytes _ _) (Value.ref _)) _ _ _); (with_reducible rename Fr _ _ _ _ => F'); (with_reducible rename News _ _ _ _ => N'); (refine Mine.slice_B (s := ⟨_, _, _, _, _⟩) F' N' (by constructor) (by constructor) (by first | omega | (simp only [Array.size_append, List.size_toArray]; omega)) ?_); intro _ _ _ _ _))
local macro_rules | `(tactic| walk_at "call builtin:bytes.replace") => `(tactic| (k_here; (refine Mine.crlf_K (by omega) ?_); intro _ _))
local macro_rules | `(tactic| walk_at "subscriptTail") => `(tactic| (k_here; (with_reducible show wpAny _ _ (subscriptTail _ _ (Value.bytes _ _) (Value.int _ _)) _ _ _); (refine Mine.item_B (by omega) (by omega) (by omega) ?_); intro _ _))
local macro_rules | `(tactic| walk_at "CompSrcT") => `(tactic| (k_here; k_dflt (refine LCt.CompSrcT.range (by rfl) (by k_asm) (by k_asm) (by assumption) (by first | decide | exact small_one (by omega) (by omega) (by omega) (by omega)) (by first | exact rangeSize_nat _ _ | rfl) (by (rw [PySem.sizeLine_eq]; omega)) ?_); intro g'; refine Mine.Halt.go ?_))
local macro_rules | `(tactic| walk_at "CompEnd") => `(tactic| (refine LCg.CompEnd.intro (by assumption) (by assumption) ?cn ?cs ?co ?cS ?cr; (case cr => first | exact Mine.gS_yes (by assumption) | exact Mine.gS_no (by assumption) | exact Mine.gS_no' (by assumption)); (case cs => kcf_all); (case co => first | assumption | (simp only [LCg.Off3, and_true]; assumption)); (case cS => first | lcg_src | assumption)))
local macro_rules | `(tactic| walk_at "call type:bytes") => `(tactic| (k_here; (with_reducible show wpAny _ _ (call (Value.type "bytes") [Value.ref _]) _ _ _); k_dflt (refine' Mine.bytes_l ?kbaF ?kbaN ?kbah ?kbal ?kbai ?kbae ?kbaz ?_; (case kbaF => k_asm); (case kbaN => k_asm); (case kbah => rfl); (case kbal => kba_isList); (case kbai => assumption); (case kbae => first | exact Mine.fold_short _ | assumption); (case kbaz => first | exact Nat.le_trans (Mine.shortL_length _) (by rw [Array.length_toList]; omega) | exact Nat.le_trans (Mine.longL_length _ _) (by rw [Array.length_toList]; omega)); k_whole); intro _ _ _ F' N'))
local macro_rules | `(tactic| walk_at "pyIter ref") => `(tactic| ((with_reducible show wpAny _ _ (pyIter (Value.ref _)) (fun it s₂ => LoopAtV _ _ _ _ _ _ _ _ _ it s₂) _ _); k_here; refine Mine.Halt.go ?_))
local macro_rules | `(tactic| walk_at "InvEndN") => `(tactic| refine Mine.Halt.go ?_)
local macro_rules | `(tactic| walk_at "call builtin:list.append") => `(tactic| (k_here; (with_reducible show wpAny _ _ (call (Value.builtin _) [Value.ref _, _]) _ _ _); k_dflt (refine' Mine.append_O ?k1 ?k2 ?k3 ?k4 ?z ?_; (case k1 => k_asm); (case k2 => k_asm); (case k3 => assumption); (case k4 => assumption); (case z => ((try simp only [List.length_append, List.length_cons, List.length_nil]); omega)); k_whole); intro h' F' N'))
local macro_rules | `(tactic| walk_at "call builtin:bytes.split") => `(tactic| (k_here; k_dflt (refine' Mine.split_K ?k1 ?k2 ?k3 ?_; (case k1 => k_asm); (case k2 => k_asm); (case k3 => omega); k_whole); intro l' vs' h' k' hv' hvl' hvz' F' N' hlt'))
local macro_rules | `(tactic| walk_at "call builtin:bytes.join") => `(tactic| (k_here; k_dflt (refine' Mine.join_K ?k1 ?k2 ?k3 ?k4 ?_; (case k1 => k_asm); (case k2 => k_mem); (case k3 => assumption); (case k4 => omega); k_whole); intro _ _))
local macro_rules | `(tactic| walk_at "call builtin:bytes.endswith") => `(tactic| (k_here; (refine Mine.call_endswith (r := Mine.endsCR _) rfl ?_)))
local macro_rules | `(tactic| walk_at "call builtin:len") => `(tactic| (k_here; (with_reducible show wpAny _ _ (call (Value.builtin "len") [Value.ref _]) _ _ _); k_dflt (refine' Mine.len_O ?k1 ?k2 ?k3 ?_; (case k1 => k_asm); (case k2 => kcf_m); (case k3 => omega); k_whole); intro _ _))
local macro_rules | `(tactic| walk_at "exec For Tuple Call cons nil") => `(tactic| (k_here; (rename Fr _ _ _ _ => lF'); (with_unfolding_all refine' For_turns lF' ?_; k_whole)))
local macro_rules | `(tactic| walk_at "call type:enumerate") => `(tactic| (k_here; refine Mine.Halt.go ?_))
local macro_rules | `(tactic| walk_at "Joined") => `(tactic| refine Mine.Halt.go ?_)
local macro_rules | `(tactic| walk_at "call type:bytes cons nil") => `(tactic| (k_here; (with_reducible show wpAny _ _ (call (Value.type "bytes") [Value.ref _]) _ _ _); k_dflt (refine' Mine.bytes_one ?kbaF ?kbaN ?kbah ?kbal ?kba0 ?kba1 ?_; (case kbaF => k_asm); (case kbaN => k_asm); (case kbah => rfl); (case kbal => exact News.isList (by k_asm) (by k_mem)); (case kba0 => ((try k_fmods); omega)); (case kba1 => ((try k_fmods); omega)); k_whole); intro _ _ _ F' N'))
local macro_rules | `(tactic| walk_at "binaryOp Mult bytes int") => `(tactic| (k_here; (with_reducible show wpAny _ _ (binaryOp Operator.Mult (Value.bytes (List.toArray _) _) (Value.int _ _)) _ _ _); k_dflt (refine' bytes_mul_any ?b ?h1 ?hn ?hs ?_; (case b => first | assumption | exact List.cons_ne_nil _ _); (case h1 => ((try k_fmods); omega)); (case hn => ((try k_fmods); omega)); (case hs => first | omega | (simp only [List.length_cons, List.length_nil]; decide)); k_whole); intro _ _))
local macro_rules | `(tactic| walk_at "subscriptTail") => `(tactic| (k_here; (with_reducible show wpAny _ _ (subscriptTail (Expr.List _ _) (Expr.BinOp _ Operator.Sub _ _) (Value.ref _) (Value.int _ _)) _ _ _); k_dflt (refine' Mine.menu3 ?k1 ?k2 ?k3 ?k4 ?k5 ?k6 ?_; (case k1 => exact News.isList (by k_asm) (by k_mem)); (case k4 => exact Mine.pieceV_mk (List.cons_ne_nil _ _) (by decide)); (case k5 => exact Mine.pieceV_mk (List.cons_ne_nil _ _) (by decide)); (case k6 => exact Mine.pieceV_mk (List.cons_ne_nil _ _) (by decide)); (case k2 => ((try k_fmods); omega)); (case k3 => ((try k_fmods); omega)); k_whole); intro v' hv'))
local macro_rules | `(tactic| walk_at "inplaceOp Add bytes bytes") => `(tactic| (k_here; (with_reducible show wpAny _ _ (inplaceOp Operator.Add (Value.bytes _ _) (Value.bytes _ _)) _ _ _); (refine Mine.iadd_bytes (by omega) ?_); intro _ _))
local macro_rules | `(tactic| walk_at "binaryOp Add bytes bytes") => `(tactic| (k_here; (with_reducible show wpAny _ _ (binaryOp Operator.Add (Value.bytes _ _) (Value.bytes _ _)) _ _ _); (refine KBy.add_bytes (by first | omega | ((simp only [Array.size_append]); omega)) ?_); intro _ _))
namespace Mine
open PySem PySem.W PyProof.Rows
set_option maxRecDepth 100000 in
set_option maxHeartbeats 8000000 in
theorem c_is_binary {w : World} {lse : List Str} {mean : ExcName → Option Value} {mg mb : Str → Option Value} (b : Array UInt8) (t : Tok) (hz : b.size ≤ 100000) (news : List (Addr × Obj)) :
    CbClaim PySem.Challenge.rw_jg0022_01.row.prog w (hd.heap_39 w.params) hd.view_39 lse mean mg mb 28 news [] True [.bytes b t] (fun _ => .bool (binB b)) := by
  k_fill
  w_top off
  unfold CbClaim
  dsimp only [CbLists]
  intros
  rename_i hret
  refine wpAny_call ?_
  k_dflt (refine' code_def (binds := [(Str.ofString "content", .bytes b t)]) ?k1 ?k2 ?k3 ?k4 ?k5 ?kA ?kF ?kK ?k6 ?k7 ?k8 ?k9 ?kB ?_ ?c2 ?c3 ?c4 ?c5; (case kA => exact rfl); (case kF => exact rfl); (case kK => assumption); (case k1 => k_asm); (case k2 => k_asm); (case k3 => k_asm); (case k4 => k_asm); (case k5 => k_asm); (case k6 => k_is); (case k7 => k_is); (case k8 => ktr_room); (case k9 => exact BindsTo.of_eq rfl); (case c5 => decide); (case kB => exact locs rfl); (case c2 => exact rfl); (case c3 => exact rfl); (case c4 => exact rfl); k_whole; intro g' L' h' FG' F' N' B' X' T'; (try dsimp only [List.reverse_cons, List.reverse_nil, List.nil_append] at F'); (try dsimp only); (try k_lift B'); (try k_fold))
  k_steps
  all_goals exact ret_at (R := (fun _ => .bool (binB b))) hret ⟨0, rfl⟩ (by assumption) (by assumption) (by kcj_all)

set_option maxRecDepth 100000 in
set_option maxHeartbeats 8000000 in
theorem c_crlf {w : World} {lse : List Str} {mean : ExcName → Option Value} {mg mb : Str → Option Value} (b : Array UInt8) (t : Tok) (hz : b.size ≤ 100000) (news : List (Addr × Obj)) :
    CbClaim PySem.Challenge.rw_jg0022_01.row.prog w (hd.heap_39 w.params) hd.view_39 lse mean mg mb 103 news [] True [.bytes b t] (fun t' => .bytes (shortB b) t') := by
  k_fill
  w_top off
  unfold CbClaim
  dsimp only [CbLists]
  intros
  rename_i hret
  refine wpAny_call ?_
  k_dflt (refine' code_def (binds := [(Str.ofString "text_hunk", .bytes b t)]) ?k1 ?k2 ?k3 ?k4 ?k5 ?kA ?kF ?kK ?k6 ?k7 ?k8 ?k9 ?kB ?_ ?c2 ?c3 ?c4 ?c5; (case kA => exact rfl); (case kF => exact rfl); (case kK => assumption); (case k1 => k_asm); (case k2 => k_asm); (case k3 => k_asm); (case k4 => k_asm); (case k5 => k_asm); (case k6 => k_is); (case k7 => k_is); (case k8 => ktr_room); (case k9 => exact BindsTo.of_eq rfl); (case c5 => decide); (case kB => exact locs rfl); (case c2 => exact rfl); (case c3 => exact rfl); (case c4 => exact rfl); k_whole; intro g' L' h' FG' F' N' B' X' T'; (try dsimp only [List.reverse_cons, List.reverse_nil, List.nil_append] at F'); (try dsimp only); (try k_lift B'); (try k_fold))
  k_steps
  all_goals exact ret_at (R := (fun t' => .bytes (shortB b) t')) hret ⟨_, rfl⟩ (by assumption) (by assumption) (by kcj_all)

set_option maxRecDepth 100000 in
set_option maxHeartbeats 8000000 in
theorem c_short {w : World} {lse : List Str} {mean : ExcName → Option Value} {mg mb : Str → Option Value} (b : Array UInt8) (t : Tok) (hz : b.size ≤ 100000) (news : List (Addr × Obj)) :
    CbClaim PySem.Challenge.rw_jg0022_01.row.prog w (hd.heap_39 w.params) hd.view_39 lse mean mg mb 123 news [] True [.bytes b t] (fun t' => .bytes (shortB b) t') := by
  k_fill
  w_top off
  unfold CbClaim
  dsimp only [CbLists]
  intros
  rename_i hret
  refine wpAny_call ?_
  k_dflt (refine' code_defC (binds := [(Str.ofString "octets", .bytes b t)]) ?k1 ?k2 ?k3 ?k4 ?k5 ?kA ?kF ?kK ?k6 ?k7 ?k8 ?k9 ?kB ?kD ?_ ?c2 ?c3 ?c4; (case kA => exact rfl); (case kF => exact rfl); (case kK => assumption); (case k1 => k_asm); (case k2 => k_asm); (case k3 => k_asm); (case k4 => k_asm); (case k5 => k_asm); (case k6 => k_is); (case k7 => k_is); (case k8 => ktr_room); (case k9 => exact BindsTo.of_eq rfl); (case kB => exact rfl); (case kD => decide +kernel); (case c2 => exact rfl); (case c3 => exact rfl); (case c4 => exact rfl); k_whole; intro g' L' h' tk' cells' FG' F' N' Y' B' X' T' l1; k_cells Y'; (try simp only [List.cons_append, List.nil_append] at N'); (try dsimp only); (try k_lift B'); (try k_fold))
  k_steps
  refine Halt.mk ?_
  refine kci_range (gS b) (fun k' t' I' oI' C' oC' D' m' ys' l' h' tk' E' hlo' hhi' hI' hC' hx' F' N' off' ne' _ => ?_) ?_ (gS_grows b)
  all_goals (try k_fold)
  all_goals k_steps
  all_goals exact ret_at (R := (fun t' => .bytes (shortB b) t')) hret ⟨_, rfl⟩ (by assumption) (by assumption) (by kcj_all)

set_option maxRecDepth 100000 in
set_option maxHeartbeats 8000000 in
theorem c_long {w : World} {lse : List Str} {mean : ExcName → Option Value} {mg mb : Str → Option Value} (b : Array UInt8) (t : Tok) (hz : b.size ≤ 100000) (news : List (Addr × Obj)) :
    CbClaim PySem.Challenge.rw_jg0022_01.row.prog w (hd.heap_39 w.params) hd.view_39 lse mean mg mb 130 news [] True [.bytes b t] (fun t' => .bytes (longB b) t') := by
  k_fill
  w_top off
  unfold CbClaim
  dsimp only [CbLists]
  intros
  rename_i hret
  refine wpAny_call ?_
  k_dflt (refine' code_def (binds := [(Str.ofString "octets", .bytes b t)]) ?k1 ?k2 ?k3 ?k4 ?k5 ?kA ?kF ?kK ?k6 ?k7 ?k8 ?k9 ?kB ?_ ?c2 ?c3 ?c4 ?c5; (case kA => exact rfl); (case kF => exact rfl); (case kK => assumption); (case k1 => k_asm); (case k2 => k_asm); (case k3 => k_asm); (case k4 => k_asm); (case k5 => k_asm); (case k6 => k_is); (case k7 => k_is); (case k8 => ktr_room); (case k9 => exact BindsTo.of_eq rfl); (case c5 => decide); (case kB => exact locs rfl); (case c2 => exact rfl); (case c3 => exact rfl); (case c4 => exact rfl); k_whole; intro g' L' h' FG' F' N' B' X' T'; (try dsimp only [List.reverse_cons, List.reverse_nil, List.nil_append] at F'); (try dsimp only); (try k_lift B'); (try k_fold))
  k_steps
  refine Halt.mk ?_
  rename Fr _ _ _ _ => F1
  rename News _ _ _ _ => N1
  rename IsRange _ _ _ _ _ _ _ _ => rgX
  with_unfolding_all refine kst_range (σ := List Value × Nat) (fun c => (_, W.listOf c.1.toArray c.2) :: news) (fun _ => []) (fun _ => True) [] (LongS b) ([], 0) (by rfl) rgX (by exact small_one (by omega) (by omega) (by omega) (by omega)) (by exact rangeSize_nat _ _) F1 N1 trivial (by intro p hp; cases hp) (longS_start b) ?_ ?_
  · intro c pre k tk u hp tks own hk hlt hoff _ hP F2 N2
    obtain ⟨os, hi, hP, hl⟩ := hP
    obtain ⟨us, nn⟩ := c
    simp only [kstB, List.contains_nil, Bool.false_eq_true, if_false] at F2
    replace N2 : News _ _ _ (((_, W.listOf us.toArray nn) :: news) ++ own) := N2
    replace hl : us.length ≤ 2 * pre.length := hl
    replace hi : IntsAre us os := hi
    replace hoff : OwnOff own (_ :: _) := hoff
    clear F1 N1
    (try k_fold)
    k_steps
    all_goals
      refine Halt.mk ?_
      rename Fr _ _ _ _ => F3
      rename News _ _ _ _ => N3
      refine list_fin F3 N3 (by rfl) (by intro z h1; exact if_neg h1) ?_
      first
        | exact longS_two hi hP hl hk hlt (by assumption) (.inl (by assumption))
        | exact longS_two hi hP hl hk hlt (by assumption) (.inr (by assumption))
        | exact longS_10f hi hP hl hk hlt (by assumption)
        | exact longS_13 hi hP hl hk hlt (by assumption) (by assumption)
  · intro c u hp tk _ hP F2 N2
    obtain ⟨os, hi, hP⟩ := longS_end hP
    simp only [kstB, List.contains_nil, Bool.false_eq_true, if_false] at F2
    clear F1 N1
    dsimp only
    k_steps
    all_goals exact ret_at (R := (fun t' => .bytes (longB b) t')) hret ⟨_, rfl⟩ (by assumption) (by assumption) (by kcj_all)

set_option maxRecDepth 100000 in
set_option maxHeartbeats 8000000 in
theorem c_lf {w : World} {lse : List Str} {mean : ExcName → Option Value} {mg mb : Str → Option Value} (b : Array UInt8) (t : Tok) (hz : b.size ≤ 100000) (news : List (Addr × Obj)) :
    CbClaim PySem.Challenge.rw_jg0022_01.row.prog w (hd.heap_39 w.params) hd.view_39 lse mean mg mb 110 news [] True [.bytes b t] (fun t' => .bytes (longB b) t') := by
  k_fill
  w_top off
  unfold CbClaim
  dsimp only [CbLists]
  intros
  rename_i hret
  refine wpAny_call ?_
  k_dflt (refine' code_def (binds := [(Str.ofString "text_hunk", .bytes b t)]) ?k1 ?k2 ?k3 ?k4 ?k5 ?kA ?kF ?kK ?k6 ?k7 ?k8 ?k9 ?kB ?_ ?c2 ?c3 ?c4 ?c5; (case kA => exact rfl); (case kF => exact rfl); (case kK => assumption); (case k1 => k_asm); (case k2 => k_asm); (case k3 => k_asm); (case k4 => k_asm); (case k5 => k_asm); (case k6 => k_is); (case k7 => k_is); (case k8 => ktr_room); (case k9 => exact BindsTo.of_eq rfl); (case c5 => decide); (case kB => exact locs rfl); (case c2 => exact rfl); (case c3 => exact rfl); (case c4 => exact rfl); k_whole; intro g' L' h' FG' F' N' B' X' T'; (try dsimp only [List.reverse_cons, List.reverse_nil, List.nil_append] at F'); (try dsimp only); (try k_lift B'); (try k_fold))
  k_steps
  refine Halt.mk ?_
  rename Fr _ _ _ _ => F1
  rename News _ _ _ _ => N1
  rename BytesAre _ _ => hv
  rename (_ = List.length (splitL _)) => hvl
  rename (_ ≤ Array.size _ + 1) => hvz
  rename (_ ∧ AllLt _ _) => hq
  rename List Value => vs
  have hlt := lt_all (o := W.listOf vs.toArray 0) hq
  with_unfolding_all refine enum_inv (EnumJ b _ _ _ news _) (by rfl) F1 N1 (by kcf_m) ⟨[], 0, rfl, cleanS_zero b, rfl, fun _ _ _ => rfl⟩ ?_ ?_ ?_
  · rintro i m nx ⟨us, nn, rfl, _⟩
    exact ⟨rfl, by kcf_m⟩
  · rintro i v m₁ nx hp tk own T tt hi ⟨us, nn, rfl, hs, hl, hm⟩ hoff F2 N2 hT
    obtain ⟨p, tp, _, rfl⟩ := hv.get i v hi
    have hps := part_size hv hi
    obtain ⟨hil, _⟩ := List.getElem?_eq_some_iff.mp hi
    replace F2 := enumJ_map hm F2
    replace hoff : OwnOff own (_ :: _) := hoff
    clear F1 N1
    (try k_fold)
    k_steps
    all_goals
      refine Halt.mk ?_
      rename Fr _ _ _ _ => F3
      rename News _ _ _ _ => N3
      refine enum_fin F3 N3 (by rfl) (by intro z h1 h2; simp only [h1, h2, if_false]) ?_ (by simp only [List.length_append, List.length_cons, List.length_nil]; omega)
      first
        | exact cleanS_strip hv hvl hi hs (by assumption) (by assumption)
        | exact cleanS_keep hv hvl hi hs fun q => (by assumption : ¬ _) q.1
        | exact cleanS_keep hv hvl hi hs fun q => ne_true_of_eq_false (by assumption) q.2
  · rintro m₁ nx hp tk ⟨us, nn, rfl, hs, hl, hm⟩ F2 N2
    have hb := cleanS_end hs hvl
    replace F2 := enumJ_map hm F2
    clear F1 N1
    dsimp only
    k_steps
    all_goals exact ret_at (R := (fun t' => .bytes (longB b) t')) hret ⟨_, rfl⟩ (by assumption) (by assumption) (by kcj_all)
end Mine

/-! PART 5: the law's own body -/
local macro_rules | `(tactic| walk_at "call ref") => `(tactic| (k_here; (with_reducible show wpAny _ _ (call (Value.ref 28) [Value.bytes _ _]) _ _ _); k_dflt (refine' Mine.use_C (Mine.c_is_binary _ _ (by omega) _) ?k1 ?k2 ?k3 ?k4 ?k5 ?kK ?kd ?ku ?_; (case k1 => k_asm); (case k2 => k_asm); (case k3 => k_asm); (case k4 => k_asm); (case k5 => k_asm); (case kK => first | exact rfl | assumption); (case kd => ktr_room); (case ku => ktr_units)); intro _ _ _ F' N'; (try dsimp only); (try k_fold)))
local macro_rules | `(tactic| walk_at "call ref") => `(tactic| (k_here; (with_reducible show wpAny _ _ (call (Value.ref 103) [Value.bytes _ _]) _ _ _); k_dflt (refine' Mine.use_C (Mine.c_crlf _ _ (by omega) _) ?k1 ?k2 ?k3 ?k4 ?k5 ?kK ?kd ?ku ?_; (case k1 => k_asm); (case k2 => k_asm); (case k3 => k_asm); (case k4 => k_asm); (case k5 => k_asm); (case kK => first | exact rfl | assumption); (case kd => ktr_room); (case ku => ktr_units)); intro _ _ _ F' N'; (try dsimp only); (try k_fold)))
local macro_rules | `(tactic| walk_at "call ref") => `(tactic| (k_here; (with_reducible show wpAny _ _ (call (Value.ref 110) [Value.bytes _ _]) _ _ _); k_dflt (refine' Mine.use_C (Mine.c_lf _ _ (by omega) _) ?k1 ?k2 ?k3 ?k4 ?k5 ?kK ?kd ?ku ?_; (case k1 => k_asm); (case k2 => k_asm); (case k3 => k_asm); (case k4 => k_asm); (case k5 => k_asm); (case kK => first | exact rfl | assumption); (case kd => ktr_room); (case ku => ktr_units)); intro _ _ _ F' N'; (try dsimp only); (try k_fold)))
local macro_rules | `(tactic| walk_at "call ref") => `(tactic| (k_here; (with_reducible show wpAny _ _ (call (Value.ref 123) [Value.bytes _ _]) _ _ _); k_dflt (refine' Mine.use_C (Mine.c_short _ _ (by omega) _) ?k1 ?k2 ?k3 ?k4 ?k5 ?kK ?kd ?ku ?_; (case k1 => k_asm); (case k2 => k_asm); (case k3 => k_asm); (case k4 => k_asm); (case k5 => k_asm); (case kK => first | exact rfl | assumption); (case kd => ktr_room); (case ku => ktr_units)); intro _ _ _ F' N'; (try dsimp only); (try k_fold)))
local macro_rules | `(tactic| walk_at "call ref") => `(tactic| (k_here; (with_reducible show wpAny _ _ (call (Value.ref 130) [Value.bytes _ _]) _ _ _); k_dflt (refine' Mine.use_C (Mine.c_long _ _ (by omega) _) ?k1 ?k2 ?k3 ?k4 ?k5 ?kK ?kd ?ku ?_; (case k1 => k_asm); (case k2 => k_asm); (case k3 => k_asm); (case k4 => k_asm); (case k5 => k_asm); (case kK => first | exact rfl | assumption); (case kd => ktr_room); (case ku => ktr_units)); intro _ _ _ F' N'; (try dsimp only); (try k_fold)))
local macro_rules | `(tactic| walk_at "compareOp NotEq bytes bytes") => `(tactic| (k_here; (with_reducible refine Mine.ne_same ?_)))
local macro_rules | `(tactic| walk_at "call builtin:bytes.find") => `(tactic| (k_here; (refine Mine.call_find ?_); intro _ _))
local macro_rules | `(tactic| walk_at "subscriptTail") => `(tactic| (k_here; (with_reducible show wpAny _ _ (subscriptTail (Expr.List _ _) (Expr.BinOp _ Operator.Mod _ _) (Value.ref _) (Value.int _ _)) _ _ _); k_dflt (refine' Mine.menuI ?k1 ?k2 ?k3 ?_; (case k1 => exact News.isList (by k_asm) (by k_mem)); (case k2 => ((try k_fmods); omega)); (case k3 => ((try k_fmods); omega)); k_whole); intro v' hv'))
local macro_rules | `(tactic| walk_at "compareOp IsNot bool bool") => `(tactic| (k_here; (with_reducible refine Mine.isnot_same ?_)))
local macro_rules | `(tactic| walk_at "compareOp NotEq bytes bytes") => `(tactic| (k_here; first | (with_reducible refine Mine.ne_same ?_) | (with_reducible refine Mine.ne_by (Mine.short_none (by assumption)) ?_) | (with_reducible refine Mine.ne_by (Mine.short_none (by assumption)).symm ?_)))
local macro_rules | `(tactic| walk_at "exec For Name List cons nil") => `(tactic| (k_here; (rename Fr _ _ _ _ => lF'); (with_unfolding_all refine' For_invVF lF' ?k1 ?k2 ?_; (case k1 => exact rfl); (case k2 => exact rfl); k_whole)))
local macro_rules | `(tactic| walk_at "compareOp In str ref") => `(tactic| (k_here; (with_reducible show wpAny _ _ (compareOp CmpOp.In (Value.str _ _) (Value.ref 43)) _ _ _); k_dflt (refine' in_tuple_strs ?k1 ?k2 ?_; (case k1 => exact tupK (Frag.In.keeps (by k_asm) (Fr.keep (by k_asm))) (by k_is)); (case k2 => kde_strs); k_whole)))
namespace Mine
open PySem PySem.W PyProof.Rows
set_option maxRecDepth 100000 in
set_option maxHeartbeats 40000000 in
theorem holdsM : PySem.Challenge.rw_jg0022_01.Holds := hd (by
  k_go0
  rename Fr _ _ _ _ => F0
  rename News _ _ _ _ => N0
  rename (IntsAre _ _) => hI
  rename (Heap.IsList _ _ _) => hL
  rename List Int => ns
  rename List Value => vs
  rename World => wld
  refine set_step (Str.ofString "n") (fun v => ∃ k t, v = .int k t) F0 N0 ?_ ?_
  · (try k_fold)
    k_steps
    all_goals (refine Halt.mk ?_; rename Fr _ _ _ _ => F3; rename News _ _ _ _ => N3; exact set_fin F3 N3 ⟨_, _, rfl⟩ (by kcj_all))
  clear F0 N0
  rintro hp tk _ ⟨n, tn, rfl⟩ F0 N0
  refine set_step (Str.ofString "row") RowV F0 N0 ?_ ?_
  · (try k_fold)
    k_steps
    all_goals (refine Halt.mk ?_; rename Fr _ _ _ _ => F3; rename News _ _ _ _ => N3; exact set_fin F3 N3 (rowV_mk (by (try k_fmods); omega) (by (try k_fmods); omega) (by (try k_fmods); omega) (by (try k_fmods); omega)) (by kcj_all))
  clear F0 N0
  rintro hp tk _ ⟨x, cnt, tr, rfl, hx, hc0, hc1⟩ F0 N0
  refine set_step (Str.ofString "head") (fun v => ∃ t, v = .bytes #[] t) F0 N0 ?_ ?_
  · (try k_fold)
    k_steps
    all_goals (refine Halt.mk ?_; rename Fr _ _ _ _ => F3; rename News _ _ _ _ => N3; exact set_fin F3 N3 ⟨_, rfl⟩ (by kcj_all))
  clear F0 N0
  rintro hp tk _ ⟨th, rfl⟩ F0 N0
  refine set_step (Str.ofString "tail") (fun v => ∃ t, v = .bytes #[] t) F0 N0 ?_ ?_
  · (try k_fold)
    k_steps
    all_goals (refine Halt.mk ?_; rename Fr _ _ _ _ => F3; rename News _ _ _ _ => N3; exact set_fin F3 N3 ⟨_, rfl⟩ (by kcj_all))
  clear F0 N0
  rintro hp tk _ ⟨tt, rfl⟩ F0 N0
  refine loop_step F0 N0 ?_ ?_
  · (try k_fold)
    k_steps
    refine Halt.mk ?_
    rename Fr _ _ _ _ => F1
    rename News _ _ _ _ => N1
    rename IsRange _ _ _ _ _ _ _ _ => rgX
    generalize hge : (ite (_ < (13 : Int)) _ (13 : Int)) = e at rgX
    have he : e ≤ 13 ∧ 0 ≤ e ∧ e ≤ (ns.length : Int) := by
      subst hge
      split <;> omega
    with_unfolding_all refine kst_range (σ := LoopC) (fun _ => []) loopPs (fun _ => True) [Str.ofString "m", Str.ofString "piece"] LoopP (#[], th, #[], tt) (by rfl) rgX (by exact small_one (by omega) (by omega) (by omega) (by omega)) (by exact rangeSize_nat _ _) F1 N1 trivial (List.forall_mem_cons.mpr ⟨rfl, List.forall_mem_cons.mpr ⟨rfl, List.forall_mem_nil _⟩⟩) ⟨Nat.zero_le _, Nat.zero_le _⟩ ?_ ?_
    · intro c pre k tk u hp tks own hk hlt hoff _ hP F2 N2
      obtain ⟨hs1, hs2⟩ := hP
      obtain ⟨h, th', t, tt'⟩ := c
      replace F2 := loop_map F2
      replace N2 : News _ _ _ own := N2
      replace hs1 : h.size ≤ 6 * pre.length := hs1
      replace hs2 : t.size ≤ 6 * pre.length := hs2
      clear F1 N1
      (try clear F0)
      (try clear N0)
      dsimp only at F2
      have hk1 : 1 ≤ k := by omega
      have hk2 : k < (ns.length : Int) := by omega
      have hk3 : pre.length ≤ 12 := by omega
      refine set_step (Str.ofString "m") (fun v => ∃ i t, v = .int i t) F2 N2 ?_ ?_
      · (try k_fold)
        k_steps
        all_goals (refine Halt.mk ?_; rename Fr _ _ _ _ => F3; rename News _ _ _ _ => N3; exact set_fin F3 N3 ⟨_, _, rfl⟩ (by kcj_all))
      clear F2 N2
      rintro hp tk _ ⟨mm, tm, rfl⟩ F2 N2
      refine set_step (Str.ofString "piece") PieceV F2 N2 ?_ ?_
      · (try k_fold)
        k_steps
        all_goals (refine Halt.mk ?_; rename Fr _ _ _ _ => F3; rename News _ _ _ _ => N3; first | exact set_fin F3 N3 (by assumption) (by kcj_all) | exact set_fin F3 N3 (pieceV_mk (List.cons_ne_nil _ _) (by simp)) (by kcj_all))
      clear F2 N2
      rintro hp tk _ ⟨p, tp, rfl, hp0, hp2⟩ F2 N2
      refine set_step (Str.ofString "piece") PieceW F2 N2 ?_ ?_
      · (try k_fold)
        k_steps
        all_goals (refine Halt.mk ?_; rename Fr _ _ _ _ => F3; rename News _ _ _ _ => N3; exact set_fin F3 N3 (pieceW_mk hp2 (by (try k_fmods); omega)) (by kcj_all))
      clear F2 N2
      rintro hp tk _ ⟨p', tp', rfl, hp6⟩ F2 N2
      (try k_fold)
      k_steps
      all_goals
        refine Halt.mk ?_
        rename Fr _ _ _ _ => F3
        rename News _ _ _ _ => N3
        with_unfolding_all refine loop_fin F3 N3 (by kcj_all) (by rfl) (by rfl) (by rfl) (by intro z z1 z2 z3 z4 z5; simp only [z1, z2, z3, z4, z5, if_false]) ?_ ?_
        all_goals (simp only [Array.size_append, List.length_append, List.length_singleton]; omega)
    · intro c u hp tk _ hP F2 N2
      refine Joined.mk F2 N2 ⟨rfl, u, c, ?_, ?_, rfl⟩ (by kcj_all)
      · have := hP.1
        rw [rangeKs_length] at this
        omega
      · have := hP.2
        rw [rangeKs_length] at this
        omega
  clear F0 N0
  intro hp tk u c hs1 hs2 F0 N0
  replace F0 := loop_map0 F0
  obtain ⟨h, th, t, tt⟩ := c
  replace hs1 : h.size ≤ 100 := hs1
  replace hs2 : t.size ≤ 100 := hs2
  dsimp only at F0
  have hrs := rowB_size cnt x
  generalize hrow : rowB cnt x = row at F0 hrs
  refine set_step (Str.ofString "octets") (fun v => ∃ tk, v = .bytes (h ++ row ++ t) tk) F0 N0 ?_ ?_
  · (try k_fold)
    k_steps
    all_goals (refine Halt.mk ?_; rename Fr _ _ _ _ => F3; rename News _ _ _ _ => N3; exact set_fin F3 N3 ⟨_, rfl⟩ (by kcj_all))
  clear F0 N0
  rintro hp tk _ ⟨to, rfl⟩ F0 N0
  generalize hoct : h ++ row ++ t = octets at F0
  have hos : octets.size ≤ 9300 := by
    rw [← hoct, Array.size_append, Array.size_append]
    omega
  have hz1 := shortB_size h
  have hz2 := shortB_size t
  have hz3 := shortB_size octets
  have hz4 := longB_size h
  have hz5 := longB_size t
  have hz6 := longB_size octets
  refine set_step (Str.ofString "short") (fun v => ∃ tk, v = .bytes (shortB h ++ row ++ shortB t) tk) F0 N0 ?_ ?_
  · (try k_fold)
    k_steps
    all_goals (refine Halt.mk ?_; rename Fr _ _ _ _ => F3; rename News _ _ _ _ => N3; exact set_fin F3 N3 ⟨_, rfl⟩ (by kcj_all))
  clear F0 N0
  rintro hp tk _ ⟨tsh, rfl⟩ F0 N0
  refine set_step (Str.ofString "long") (fun v => ∃ tk, v = .bytes (longB h ++ row ++ longB t) tk) F0 N0 ?_ ?_
  · (try k_fold)
    k_steps
    all_goals (refine Halt.mk ?_; rename Fr _ _ _ _ => F3; rename News _ _ _ _ => N3; exact set_fin F3 N3 ⟨_, rfl⟩ (by kcj_all))
  clear F0 N0
  rintro hp tk _ ⟨tlo, rfl⟩ F0 N0
  have hne10 : x ≠ 10 := by rintro rfl; exact absurd hx (by decide)
  have hne13 : x ≠ 13 := by rintro rfl; exact absurd hx (by decide)
  have hS : shortB h ++ row ++ shortB t = shortB octets := by
    rw [← hoct, ← hrow]; exact (short_parts h t x cnt hc0 hne10 hne13).symm
  have hLo : longB h ++ row ++ longB t = longB octets := by
    rw [← hoct, ← hrow]; exact (long_parts h t x cnt hc0 hne10 hne13).symm
  rw [hS, hLo] at F0
  refine skip_step F0 N0 ?_ ?_
  · (try k_fold)
    k_steps
    all_goals (refine Halt.mk ?_; rename Fr _ _ _ _ => F3; rename News _ _ _ _ => N3; exact skip_fin F3 N3 (by kcj_all))
  clear F0 N0
  intro hp tk F0 N0
  refine set_step (Str.ofString "zero") (fun v => ∃ t, v = .int (findInt octets #[0]) t) F0 N0 ?_ ?_
  · (try k_fold)
    k_steps
    all_goals (refine Halt.mk ?_; rename Fr _ _ _ _ => F3; rename News _ _ _ _ => N3; exact set_fin F3 N3 ⟨_, rfl⟩ (by kcj_all))
  clear F0 N0
  rintro hp tk _ ⟨tz, rfl⟩ F0 N0
  refine set_step (Str.ofString "binary") (fun v => v = .bool (binB octets)) F0 N0 ?_ ?_
  · (try k_fold)
    k_steps
    all_goals (refine Halt.mk ?_; rename Fr _ _ _ _ => F3; rename News _ _ _ _ => N3; first | exact set_fin F3 N3 (binV_lo' (by assumption)) (by kcj_all) | exact set_fin F3 N3 (binV_hi (by assumption)) (by kcj_all))
  clear F0 N0
  rintro hp tk _ rfl F0 N0
  refine skip_step F0 N0 ?_ ?_
  · (try k_fold)
    k_steps
    all_goals (refine Halt.mk ?_; rename Fr _ _ _ _ => F3; rename News _ _ _ _ => N3; exact skip_fin F3 N3 (by kcj_all))
  clear F0 N0
  intro hp tk F0 N0
  refine set_step (Str.ofString "index") IdxV F0 N0 ?_ ?_
  · (try k_fold)
    k_steps
    all_goals (refine Halt.mk ?_; rename Fr _ _ _ _ => F3; rename News _ _ _ _ => N3; exact set_fin F3 N3 (by assumption) (by kcj_all))
  clear F0 N0
  rintro hp tk iv hiv F0 N0
  refine any_step (fun m nw m' nw' => nw' = nw ∧ ∃ a g o d, m' = actM a g o d m) F0 N0 ?_ ?_
  · (try k_fold)
    k_steps
    refine Halt.mk ?_
    rename Fr _ _ _ _ => F1
    rename News _ _ _ _ => N1
    with_unfolding_all refine iter_vals (ActJ [_] _) (by rfl) (by kcf_m) F1 N1 ⟨rfl, fun _ _ _ _ _ => rfl⟩ ?_ ?_ ?_
    · rintro i m nx ⟨rfl, _⟩
      kcf_m
    · rintro i v m₁ nx hp tk own hi hadr hoff ⟨rfl, hm⟩ F2 N2
      replace F2 := act_map hm F2
      clear F1 N1
      (try clear F0)
      (try clear N0)
      rcases i with _ | _ | _ | _ | i
      · obtain rfl := Option.some.inj hi
        refine set_step (Str.ofString "guess") (fun v => v = .bool false) F2 N2 ?_ ?_
        · (try k_fold)
          k_steps
          all_goals (refine Halt.mk ?_; rename Fr _ _ _ _ => F3; rename News _ _ _ _ => N3; exact set_fin F3 N3 (by first | rfl | decide +kernel) (by kcf_all))
        clear F2 N2
        rintro hp tk _ rfl F2 N2
        refine set_step (Str.ofString "out") (fun v => v = .bool true) F2 N2 ?_ ?_
        · (try k_fold)
          k_steps
          all_goals (refine Halt.mk ?_; rename Fr _ _ _ _ => F3; rename News _ _ _ _ => N3; exact set_fin F3 N3 (by first | rfl | decide +kernel) (by kcf_all))
        clear F2 N2
        rintro hp tk _ rfl F2 N2
        refine any_step (MadeP wld.params (.bool true) false (.none)) F2 N2 ?_ ?_
        · (try k_fold)
          k_steps
          all_goals (refine Halt.mk ?_; rename Fr _ _ _ _ => F3; rename News _ _ _ _ => N3; exact Joined.mk F3 N3 ⟨_, _, _, _, _, _, _, _, _, rfl, rfl⟩ (by kcf_all))
        clear F2 N2
        rintro hp tk _ _ ⟨xo, xd, k1, k2, k3, k4, k5, k6, ts, rfl, rfl⟩ F2 N2
        refine skip_step F2 N2 ?_ ?_
        · (try k_fold)
          k_steps
          all_goals (refine Halt.mk ?_; rename Fr _ _ _ _ => F3; rename News _ _ _ _ => N3; exact skip_fin F3 N3 (by kcf_all))
        clear F2 N2
        rintro hp tk F2 N2
        refine skip_step F2 N2 ?_ ?_
        · (try k_fold)
          k_steps
          all_goals (refine Halt.mk ?_; rename Fr _ _ _ _ => F3; rename News _ _ _ _ => N3; exact skip_fin F3 N3 (by kcf_all))
        clear F2 N2
        rintro hp tk F2 N2
        (try k_fold)
        k_steps
        all_goals (refine Halt.mk ?_; rename Fr _ _ _ _ => F3; rename News _ _ _ _ => N3; exact act_fin F3 N3 (by kcf_all) (by kcf_all) (by rfl) (by intro z z1 z2 z3 z4; simp only [z1, z2, z3, z4, if_false]))
      · obtain rfl := Option.some.inj hi
        refine set_step (Str.ofString "guess") (fun v => v = .bool false) F2 N2 ?_ ?_
        · (try k_fold)
          k_steps
          all_goals (refine Halt.mk ?_; rename Fr _ _ _ _ => F3; rename News _ _ _ _ => N3; exact set_fin F3 N3 (by first | rfl | decide +kernel) (by kcf_all))
        clear F2 N2
        rintro hp tk _ rfl F2 N2
        refine set_step (Str.ofString "out") (fun v => v = .bool false) F2 N2 ?_ ?_
        · (try k_fold)
          k_steps
          all_goals (refine Halt.mk ?_; rename Fr _ _ _ _ => F3; rename News _ _ _ _ => N3; exact set_fin F3 N3 (by first | rfl | decide +kernel) (by kcf_all))
        clear F2 N2
        rintro hp tk _ rfl F2 N2
        refine any_step (MadeP wld.params (.none) false (.none)) F2 N2 ?_ ?_
        · (try k_fold)
          k_steps
          all_goals (refine Halt.mk ?_; rename Fr _ _ _ _ => F3; rename News _ _ _ _ => N3; exact Joined.mk F3 N3 ⟨_, _, _, _, _, _, _, _, _, rfl, rfl⟩ (by kcf_all))
        clear F2 N2
        rintro hp tk _ _ ⟨xo, xd, k1, k2, k3, k4, k5, k6, ts, rfl, rfl⟩ F2 N2
        refine skip_step F2 N2 ?_ ?_
        · (try k_fold)
          k_steps
          all_goals (refine Halt.mk ?_; rename Fr _ _ _ _ => F3; rename News _ _ _ _ => N3; exact skip_fin F3 N3 (by kcf_all))
        clear F2 N2
        rintro hp tk F2 N2
        refine skip_step F2 N2 ?_ ?_
        · (try k_fold)
          k_steps
          all_goals (refine Halt.mk ?_; rename Fr _ _ _ _ => F3; rename News _ _ _ _ => N3; exact skip_fin F3 N3 (by kcf_all))
        clear F2 N2
        rintro hp tk F2 N2
        (try k_fold)
        k_steps
        all_goals (refine Halt.mk ?_; rename Fr _ _ _ _ => F3; rename News _ _ _ _ => N3; exact act_fin F3 N3 (by kcf_all) (by kcf_all) (by rfl) (by intro z z1 z2 z3 z4; simp only [z1, z2, z3, z4, if_false]))
      · obtain rfl := Option.some.inj hi
        refine set_step (Str.ofString "guess") (fun v => v = .bool true) F2 N2 ?_ ?_
        · (try k_fold)
          k_steps
          all_goals (refine Halt.mk ?_; rename Fr _ _ _ _ => F3; rename News _ _ _ _ => N3; exact set_fin F3 N3 (by first | rfl | decide +kernel) (by kcf_all))
        clear F2 N2
        rintro hp tk _ rfl F2 N2
        refine set_step (Str.ofString "out") (fun v => v = .bool true) F2 N2 ?_ ?_
        · (try k_fold)
          k_steps
          all_goals (refine Halt.mk ?_; rename Fr _ _ _ _ => F3; rename News _ _ _ _ => N3; exact set_fin F3 N3 (by first | rfl | decide +kernel) (by kcf_all))
        clear F2 N2
        rintro hp tk _ rfl F2 N2
        refine any_step (MadeP wld.params (.bool true) true (iv)) F2 N2 ?_ ?_
        · (try k_fold)
          k_steps
          all_goals (refine Halt.mk ?_; rename Fr _ _ _ _ => F3; rename News _ _ _ _ => N3; exact Joined.mk F3 N3 ⟨_, _, _, _, _, _, _, _, _, rfl, rfl⟩ (by kcf_all))
        clear F2 N2
        rintro hp tk _ _ ⟨xo, xd, k1, k2, k3, k4, k5, k6, ts, rfl, rfl⟩ F2 N2
        refine skip_step F2 N2 ?_ ?_
        · rcases hiv with rfl | rfl | rfl <;> ((try k_fold); k_steps)
          all_goals (refine Halt.mk ?_; rename Fr _ _ _ _ => F3; rename News _ _ _ _ => N3; exact skip_fin F3 N3 (by kcf_all))
        clear F2 N2
        rintro hp tk F2 N2
        refine skip_step F2 N2 ?_ ?_
        · (try k_fold)
          k_steps
          all_goals (refine Halt.mk ?_; rename Fr _ _ _ _ => F3; rename News _ _ _ _ => N3; exact skip_fin F3 N3 (by kcf_all))
        clear F2 N2
        rintro hp tk F2 N2
        (try k_fold)
        k_steps
        all_goals (refine Halt.mk ?_; rename Fr _ _ _ _ => F3; rename News _ _ _ _ => N3; exact act_fin F3 N3 (by kcf_all) (by kcf_all) (by rfl) (by intro z z1 z2 z3 z4; simp only [z1, z2, z3, z4, if_false]))
      · obtain rfl := Option.some.inj hi
        refine set_step (Str.ofString "guess") (fun v => v = .bool true) F2 N2 ?_ ?_
        · (try k_fold)
          k_steps
          all_goals (refine Halt.mk ?_; rename Fr _ _ _ _ => F3; rename News _ _ _ _ => N3; exact set_fin F3 N3 (by first | rfl | decide +kernel) (by kcf_all))
        clear F2 N2
        rintro hp tk _ rfl F2 N2
        refine set_step (Str.ofString "out") (fun v => v = .bool false) F2 N2 ?_ ?_
        · (try k_fold)
          k_steps
          all_goals (refine Halt.mk ?_; rename Fr _ _ _ _ => F3; rename News _ _ _ _ => N3; exact set_fin F3 N3 (by first | rfl | decide +kernel) (by kcf_all))
        clear F2 N2
        rintro hp tk _ rfl F2 N2
        refine any_step (MadeP wld.params (.none) true (iv)) F2 N2 ?_ ?_
        · (try k_fold)
          k_steps
          all_goals (refine Halt.mk ?_; rename Fr _ _ _ _ => F3; rename News _ _ _ _ => N3; exact Joined.mk F3 N3 ⟨_, _, _, _, _, _, _, _, _, rfl, rfl⟩ (by kcf_all))
        clear F2 N2
        rintro hp tk _ _ ⟨xo, xd, k1, k2, k3, k4, k5, k6, ts, rfl, rfl⟩ F2 N2
        refine skip_step F2 N2 ?_ ?_
        · rcases hiv with rfl | rfl | rfl <;> ((try k_fold); k_steps)
          all_goals (refine Halt.mk ?_; rename Fr _ _ _ _ => F3; rename News _ _ _ _ => N3; exact skip_fin F3 N3 (by kcf_all))
        clear F2 N2
        rintro hp tk F2 N2
        refine skip_step F2 N2 ?_ ?_
        · (try k_fold)
          k_steps
          all_goals (refine Halt.mk ?_; rename Fr _ _ _ _ => F3; rename News _ _ _ _ => N3; exact skip_fin F3 N3 (by kcf_all))
        clear F2 N2
        rintro hp tk F2 N2
        (try k_fold)
        k_steps
        all_goals (refine Halt.mk ?_; rename Fr _ _ _ _ => F3; rename News _ _ _ _ => N3; exact act_fin F3 N3 (by kcf_all) (by kcf_all) (by rfl) (by intro z z1 z2 z3 z4; simp only [z1, z2, z3, z4, if_false]))
      · cases hi
    · rintro m₁ nx hp tk ⟨rfl, hm⟩ F2 N2
      exact Joined.mk (actM_fr hm F2) N2 ⟨rfl, _, _, _, _, rfl⟩ (by kcj_all)
  clear F0 N0
  rintro hp tk _ _ ⟨rfl, va, vg, vo, vd, rfl⟩ F0 N0
  (try k_fold)
  k_steps)
end Mine

theorem PySem.Challenge.cw_jg0022_01_holds : PySem.Challenge.rw_jg0022_01.Holds :=
  Mine.holdsM

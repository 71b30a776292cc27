import PyProof.Rows.All
import Wide.All
import OpenK.AllK
import Wide.FinOn
import PySem.Challenge.RW_te0074_03
open PySem PySem.W PyProof.Rows
set_option Elab.async false
namespace Mine
open PySem.Builtin PySem.Builtin.Str PySem.StrLaws

/-- a text by its code points -/
abbrev S (l : List Nat) : Str := ⟨l.toArray⟩
theorem S_list (l : List Nat) : (S l).cps.toList = l := rfl
theorem S_len (l : List Nat) : (S l).length = l.length := by simp [PySem.Str.length]
theorem S_app (a b : List Nat) : S a ++ S b = S (a ++ b) := PySem.Str.ext' (by simp [PySem.Str.cps_append])
theorem S_of (x : Str) : x = S x.cps.toList := PySem.Str.ext' (by simp)
/-! ### where a text stands in another -/
def hit (x y : Str) (hi i : Nat) : Bool := decide (i + y.length ≤ hi) && subAt x y i
def NoLap (x y : Str) (hi : Nat) : Prop := ∀ i j, hit x y hi i = true → hit x y hi j = true → i < j → i + y.length ≤ j

theorem occ_run (x y : Str) (hi limit : Nat) (hn : NoLap x y hi) : ∀ (n a : Nat) (st : Array Nat) (free : Nat),
    (∀ i, a ≤ i → hit x y hi i = true → free ≤ i) → st.size + n ≤ limit →
    (forIn (List.range' a n) (st, free) (occBody x y hi limit)).run.fst.toList = st.toList ++ (List.range' a n).filter (hit x y hi)
  | 0, a, st, free, _, _ => by simp
  | n + 1, a, st, free, hf, hl => by
    rw [List.range'_succ, List.forIn_cons]
    unfold occBody
    by_cases hh : hit x y hi a = true
    · have h1 : (a + y.length ≤ hi) ∧ subAt x y a = true := by simpa [hit] using hh
      have h2 := hf a (Nat.le_refl _) hh
      rw [if_pos ⟨⟨⟨by show st.size < limit; omega, h2⟩, h1.1⟩, h1.2⟩]
      have := occ_run x y hi limit hn n (a + 1) (st.push a) (a + y.length) (fun i hi' hq => hn a i hh hq (by omega)) (by simp only [Array.size_push]; omega)
      simp only [List.filter_cons, hh, if_true]
      show (forIn (List.range' (a + 1) n) (st.push a, a + y.length) (occBody x y hi limit)).run.fst.toList = _
      rw [this]
      simp
    · have h1 : ¬ (((((st, free) : Array Nat × Nat).fst.size < limit ∧ ((st, free) : Array Nat × Nat).snd ≤ a) ∧ a + y.length ≤ hi) ∧ subAt x y a = true) := by
        intro h
        exact hh (by simp [hit, h.1.2, h.2])
      rw [if_neg h1]
      have := occ_run x y hi limit hn n (a + 1) st free (fun i hi' hq => hf i (by omega) hq) (by omega)
      simp only [List.filter_cons, hh]
      show (forIn (List.range' (a + 1) n) (st, free) (occBody x y hi limit)).run.fst.toList = _
      rw [this]
      simp

theorem occ_filter (x y : Str) (hi limit : Nat) (hn : NoLap x y hi) (hl : hi + 1 ≤ limit) : occurrences x y 0 hi limit = (List.range' 0 (hi + 1)).filter (hit x y hi) := by
  rw [occ_eq]
  have := occ_run x y hi limit hn (hi + 1) 0 #[] 0 (fun i _ _ => Nat.zero_le _) (by simp; omega)
  simpa using this

theorem last_run (x y : Str) (hi : Nat) : ∀ (n a : Nat) (st : Option Nat),
    (forIn (List.range' a n) st (lastBody x y hi)).run = (((List.range' a n).filter (hit x y hi)).getLast?).or st
  | 0, a, st => by simp
  | n + 1, a, st => by
    rw [List.range'_succ, List.forIn_cons]
    unfold lastBody
    by_cases hh : hit x y hi a = true
    · have h1 : (a + y.length ≤ hi) ∧ subAt x y a = true := by simpa [hit] using hh
      rw [if_pos (by simpa using h1)]
      have := last_run x y hi n (a + 1) (some a)
      simp only [List.filter_cons, hh, if_true]
      show (forIn (List.range' (a + 1) n) (some a) (lastBody x y hi)).run = _
      rw [this, List.getLast?_cons]
      cases ((List.range' (a + 1) n).filter (hit x y hi)).getLast? <;> simp
    · have h1 : ¬ ((a + y.length ≤ hi) ∧ subAt x y a = true) := fun h => hh (by simp [hit, h.1, h.2])
      rw [if_neg (by simpa using h1)]
      have := last_run x y hi n (a + 1) st
      simp only [List.filter_cons, hh]
      show (forIn (List.range' (a + 1) n) st (lastBody x y hi)).run = _
      rw [this]
      simp

theorem last_filter (x y : Str) (hi : Nat) : lastOccurrence x y 0 hi = ((List.range' 0 (hi + 1)).filter (hit x y hi)).getLast? := by
  rw [last_eq]
  have := last_run x y hi (hi + 1) 0 none
  simpa using this

theorem hit_one (l : List Nat) (c hi i : Nat) (hl : hi ≤ l.length) : hit (S l) ⟨#[c]⟩ hi i = (decide (i < hi) && (l[i]? == some c)) := by
  unfold hit
  have e1 : (⟨#[c]⟩ : Str).length = 1 := rfl
  rw [e1, subAt_eq, e1]
  by_cases h : i < hi
  · have h2 : i < l.length := by omega
    have e : ((S l).cps.toList.drop i).take 1 = [l[i]] := by
      rw [S_list, List.drop_eq_getElem_cons h2]; rfl
    rw [e, List.getElem?_eq_getElem h2]
    simp [h, Nat.succ_le_iff]
  · simp [h, Nat.succ_le_iff]

theorem nolap_one (x : Str) (c hi : Nat) : NoLap x ⟨#[c]⟩ hi := fun i j _ _ h => h

theorem hits_one (l : List Nat) (c hi : Nat) (hl : hi ≤ l.length) : (List.range' 0 (hi + 1)).filter (hit (S l) ⟨#[c]⟩ hi) = (List.range hi).filter (fun i => l[i]? == some c) := by
  have e : List.range' 0 (hi + 1) = List.range hi ++ [hi] := by rw [← List.range_eq_range', List.range_succ]
  rw [e, List.filter_append]
  have e2 : [hi].filter (hit (S l) ⟨#[c]⟩ hi) = [] := by
    simp [hit_one l c hi hi hl]
  rw [e2, List.append_nil]
  refine List.filter_congr fun i hi' => ?_
  rw [hit_one l c hi i hl]
  simp [List.mem_range.mp hi']

theorem count_one (l : List Nat) (c hi limit : Nat) (hl : hi ≤ l.length) (hlim : hi + 1 ≤ limit) : (occurrences (S l) ⟨#[c]⟩ 0 hi limit).length = (l.take hi).count c := by
  rw [occ_filter _ _ _ _ (nolap_one _ _ _) hlim, hits_one l c hi hl]
  clear hlim limit
  induction hi with
  | zero => simp
  | succ k ih =>
    have hk : k < l.length := by omega
    rw [List.range_succ, List.filter_append, List.length_append, ih (by omega), List.take_add_one, List.count_append, List.getElem?_eq_getElem hk]
    by_cases e : l[k] = c <;> simp [hk, e]

/-! ### lines and columns -/
def adv (p : Nat × Nat) (c : Nat) : Nat × Nat := if c = 10 then (p.1 + 1, 0) else (p.1, p.2 + 1)

theorem lines_of (l : List Nat) (hi : Nat) (p : Nat × Nat) (hl : hi ≤ l.length) :
    p.1 + (l.take hi).count 10 = ((l.take hi).foldl adv p).1 := by
  induction hi with
  | zero => simp
  | succ k ih =>
    have hk : k < l.length := by omega
    rw [List.take_add_one, List.count_append, List.foldl_append, List.getElem?_eq_getElem hk]
    have := ih (by omega)
    by_cases e : l[k] = 10 <;> simp [adv, e] <;> omega

theorem cols_of (l : List Nat) (hi : Nat) (p : Nat × Nat) (hl : hi ≤ l.length) :
    (match lastOccurrence (S l) ⟨#[10]⟩ 0 hi with | some i => hi - (i + 1) | none => p.2 + hi) = ((l.take hi).foldl adv p).2 := by
  rw [last_filter, hits_one l 10 hi hl]
  induction hi with
  | zero => simp
  | succ k ih =>
    have hk : k < l.length := by omega
    rw [List.range_succ, List.filter_append, List.take_add_one, List.foldl_append, List.getElem?_eq_getElem hk]
    have := ih (by omega)
    by_cases e : l[k] = 10
    · simp [adv, e, hk]
    · have e2 : [k].filter (fun i => l[i]? == some 10) = [] := by simp [hk, e]
      rw [e2, List.append_nil]
      simp only [Option.toList_some, List.foldl_cons, List.foldl_nil, adv, if_neg e]
      rw [← this]
      cases hq : ((List.range k).filter (fun i => l[i]? == some 10)).getLast? with
      | none => simp; omega
      | some i =>
        have hi := List.mem_of_getLast? hq
        have : i < k := by simpa using (List.mem_filter.mp hi).1
        simp; omega

theorem last_lt (l : List Nat) (c hi i : Nat) (hl : hi ≤ l.length) (h : lastOccurrence (S l) ⟨#[c]⟩ 0 hi = some i) : i < hi := by
  rw [last_filter, hits_one l c hi hl] at h
  have hi := List.mem_of_getLast? h
  simpa using (List.mem_filter.mp hi).1

/-! ### replace -/
def G (x y z : Str) (a : Nat) : List Nat := (PySem.Str.join z (partsFrom x y.length a ((List.range' a (x.length + 1 - a)).filter (hit x y x.length)))).cps.toList

theorem join_cons (z p : Str) : ∀ r : List Str, r ≠ [] → (PySem.Str.join z (p :: r)).cps.toList = p.cps.toList ++ z.cps.toList ++ (PySem.Str.join z r).cps.toList
  | [], h => absurd rfl h
  | q :: r, _ => by
    show ((p ++ z ++ PySem.Str.join z (q :: r)).cps).toList = _
    simp [PySem.Str.cps_append]

theorem parts_ne (x : Str) (w a : Nat) (cuts : List Nat) : partsFrom x w a cuts ≠ [] := by
  cases cuts <;> simp [partsFrom]

theorem G_hit {x y z : Str} {a : Nat} (hn : NoLap x y x.length) (h : hit x y x.length a = true) (hw : 1 ≤ y.length) : G x y z a = z.cps.toList ++ G x y z (a + y.length) := by
  have h1 : a + y.length ≤ x.length := by have := h; simp [hit] at this; exact this.1
  unfold G
  have e : (List.range' a (x.length + 1 - a)).filter (hit x y x.length) = a :: (List.range' (a + y.length) (x.length + 1 - (a + y.length))).filter (hit x y x.length) := by
    have e1 : x.length + 1 - a = y.length + (x.length + 1 - (a + y.length)) := by omega
    rw [e1, ← List.range'_append_1, List.filter_append]
    have e2 : (List.range' a y.length).filter (hit x y x.length) = [a] := by
      obtain ⟨k, hk⟩ : ∃ k, y.length = k + 1 := ⟨y.length - 1, by omega⟩
      rw [hk, List.range'_succ, List.filter_cons, if_pos h]
      have : (List.range' (a + 1) k).filter (hit x y x.length) = [] := by
        refine List.filter_eq_nil_iff.mpr fun i hi hq => ?_
        have hm := List.mem_range'_1.mp hi
        have := hn a i h hq (by omega)
        omega
      rw [this]
    rw [e2]; rfl
  rw [e]
  show (PySem.Str.join z (strSub x a a :: partsFrom x y.length (a + y.length) _)).cps.toList = _
  rw [join_cons _ _ _ (parts_ne _ _ _ _), strSub_toList]
  simp

theorem parts_step (x : Str) (w a : Nat) (cuts : List Nat) (z : Str) (ha : a < x.length) (hc : ∀ c ∈ cuts, a + 1 ≤ c) :
    (PySem.Str.join z (partsFrom x w a cuts)).cps.toList = x.cps.toList[a]'(by simpa [PySem.Str.length] using ha) :: (PySem.Str.join z (partsFrom x w (a + 1) cuts)).cps.toList := by
  have hx : a < x.cps.toList.length := by simpa [PySem.Str.length] using ha
  have sub1 : ∀ c, a + 1 ≤ c → (strSub x a c).cps.toList = x.cps.toList[a] :: (strSub x (a + 1) c).cps.toList := by
    intro c hc
    rw [strSub_toList, strSub_toList, List.drop_eq_getElem_cons hx]
    obtain ⟨k, hk⟩ : ∃ k, c - a = k + 1 := ⟨c - a - 1, by omega⟩
    rw [hk, List.take_succ_cons]
    congr 2
    omega
  cases cuts with
  | nil =>
    show (strSub x a x.length).cps.toList = _ :: (strSub x (a + 1) x.length).cps.toList
    exact sub1 _ (by omega)
  | cons c r =>
    show (PySem.Str.join z (strSub x a c :: partsFrom x w (c + w) r)).cps.toList = _ :: (PySem.Str.join z (strSub x (a + 1) c :: partsFrom x w (c + w) r)).cps.toList
    rw [join_cons _ _ _ (parts_ne _ _ _ _), join_cons _ _ _ (parts_ne _ _ _ _), sub1 c (hc c (.head _))]
    rfl

theorem G_miss {x y z : Str} {a : Nat} (h : ¬ hit x y x.length a = true) (ha : a < x.length) : G x y z a = x.cps.toList[a]'(by simpa [PySem.Str.length] using ha) :: G x y z (a + 1) := by
  unfold G
  have e : (List.range' a (x.length + 1 - a)).filter (hit x y x.length) = (List.range' (a + 1) (x.length + 1 - (a + 1))).filter (hit x y x.length) := by
    have e1 : x.length + 1 - a = (x.length + 1 - (a + 1)) + 1 := by omega
    rw [e1, List.range'_succ, List.filter_cons, if_neg h]
  rw [e]
  refine parts_step x _ a _ z ha fun c hc => ?_
  have := (List.mem_filter.mp hc).1
  exact (List.mem_range'_1.mp this).1

theorem G_end {x y z : Str} (hw : 1 ≤ y.length) : G x y z x.length = [] := by
  unfold G
  have e : (List.range' x.length (x.length + 1 - x.length)).filter (hit x y x.length) = [] := by
    refine List.filter_eq_nil_iff.mpr fun i hi hq => ?_
    have hm := List.mem_range'_1.mp hi
    simp [hit] at hq
    omega
  rw [e]
  show (strSub x x.length x.length).cps.toList = []
  rw [strSub_toList]; simp

theorem replace_G {x y z : Str} (hn : NoLap x y x.length) (hw : 1 ≤ y.length) : (Txt.replace x y z).cps.toList = G x y z 0 := by
  unfold Txt.replace G
  rw [occ_filter x y x.length _ hn (Nat.le_refl _)]
  have hy : (y.length == 0) = false := by simp; omega
  rw [hy, Bool.false_and, Bool.or_false, Nat.sub_zero]
  cases hc : (List.range' 0 (x.length + 1)).filter (hit x y x.length) with
  | nil =>
    show x.cps.toList = (strSub x 0 x.length).cps.toList
    rw [strSub_toList, List.drop_zero, Nat.sub_zero, List.take_of_length_le (by simp [PySem.Str.length])]
  | cons c r =>
    show (glued z (partsBetween x (c :: r) y.length)).cps.toList = _
    rw [glued_eq_join, partsBetween_eq]

/-- CR LF to LF -/
def crlf : List Nat → List Nat
  | [] => []
  | [c] => [c]
  | c :: d :: t => if c = 13 ∧ d = 10 then 10 :: crlf t else c :: crlf (d :: t)
/-- CR to LF -/
def crs (l : List Nat) : List Nat := l.map fun c => if c = 13 then 10 else c
/-- line ends mended -/
def norm (l : List Nat) : List Nat := crs (crlf l)

theorem hit_crlf (l : List Nat) (i : Nat) : hit (S l) ⟨#[13, 10]⟩ (S l).length i = true ↔ l[i]? = some 13 ∧ l[i + 1]? = some 10 := by
  unfold hit
  have e1 : (⟨#[13, 10]⟩ : Str).length = 2 := rfl
  have e0 : (⟨#[13, 10]⟩ : Str).cps.toList = [13, 10] := rfl
  rw [e1, subAt_eq, e1, S_list, S_len, e0]
  by_cases h : i + 2 ≤ l.length
  · have h1 : i < l.length := by omega
    have h2 : i + 1 < l.length := by omega
    rw [List.drop_eq_getElem_cons h1, List.drop_eq_getElem_cons h2, List.getElem?_eq_getElem h1, List.getElem?_eq_getElem h2]
    simp only [h, decide_true, Bool.true_and, List.take_succ_cons, List.take_zero, beq_iff_eq, List.cons.injEq, and_true, Option.some.injEq]
  · simp only [h, decide_false, Bool.false_and, Bool.false_eq_true, false_iff, not_and]
    intro _
    rw [List.getElem?_eq_none (by omega)]
    simp

theorem nolap_crlf (l : List Nat) : NoLap (S l) ⟨#[13, 10]⟩ (S l).length := by
  intro i j hi hj hij
  have e1 : (⟨#[13, 10]⟩ : Str).length = 2 := rfl
  rw [e1]
  have h1 := (hit_crlf l i).mp hi
  have h2 := (hit_crlf l j).mp hj
  rcases Nat.lt_or_ge j (i + 2) with h | h
  · have : j = i + 1 := by omega
    subst this
    rw [h1.2] at h2
    cases h2.1
  · exact h

theorem G_crlf (l : List Nat) : ∀ (k a : Nat), a + k = l.length → G (S l) ⟨#[13, 10]⟩ ⟨#[10]⟩ a = crlf (l.drop a) := by
  intro k
  induction k using Nat.strongRecOn with
  | ind k ih =>
    intro a hk
    have hlen : (S l).length = l.length := S_len l
    rcases Nat.eq_zero_or_pos k with h0 | h0
    · have : a = (S l).length := by omega
      rw [this, G_end (by show 1 ≤ 2; omega), hlen, List.drop_length]
      rfl
    · have ha : a < l.length := by omega
      by_cases hh : hit (S l) ⟨#[13, 10]⟩ (S l).length a = true
      · obtain ⟨h1, h2⟩ := (hit_crlf l a).mp hh
        have ha2 : a + 1 < l.length := by
          rcases Nat.lt_or_ge (a + 1) l.length with h | h
          · exact h
          · rw [List.getElem?_eq_none h] at h2; cases h2
        rw [G_hit (nolap_crlf l) hh (by show 1 ≤ 2; omega)]
        show [10] ++ G (S l) ⟨#[13, 10]⟩ ⟨#[10]⟩ (a + 2) = _
        rw [ih (k - 2) (by omega) (a + 2) (by omega)]
        rw [List.drop_eq_getElem_cons ha, List.drop_eq_getElem_cons ha2]
        rw [List.getElem?_eq_getElem ha] at h1
        rw [List.getElem?_eq_getElem ha2] at h2
        simp only [Option.some.injEq] at h1 h2
        simp [crlf, h1, h2]
      · rw [G_miss hh (by rw [hlen]; exact ha), ih (k - 1) (by omega) (a + 1) (by omega), List.drop_eq_getElem_cons ha]
        have hq : ¬ (l[a]? = some 13 ∧ l[a + 1]? = some 10) := fun q => hh ((hit_crlf l a).mpr q)
        rw [List.getElem?_eq_getElem ha] at hq
        rcases Nat.lt_or_ge (a + 1) l.length with h | h
        · rw [List.getElem?_eq_getElem h] at hq
          simp only [Option.some.injEq] at hq
          rw [List.drop_eq_getElem_cons h]
          show _ = crlf (l[a] :: l[a + 1] :: _)
          rw [crlf, if_neg hq]
        · rw [List.drop_eq_nil_of_le h]
          rfl

theorem replace_crlf (l : List Nat) : Txt.replace (S l) ⟨#[13, 10]⟩ ⟨#[10]⟩ = S (crlf l) := by
  have h := replace_G (z := ⟨#[10]⟩) (nolap_crlf l) (by show 1 ≤ 2; omega)
  rw [G_crlf l l.length 0 (by omega), List.drop_zero] at h
  rw [S_of (Txt.replace _ _ _), h]

theorem hit_one' (l : List Nat) (c i : Nat) : hit (S l) ⟨#[c]⟩ (S l).length i = true ↔ l[i]? = some c := by
  rw [S_len, hit_one l c l.length i (Nat.le_refl _)]
  constructor
  · intro h; simp at h; simpa using h.2
  · intro h
    have : i < l.length := by
      rcases Nat.lt_or_ge i l.length with q | q
      · exact q
      · rw [List.getElem?_eq_none q] at h; cases h
    simp [this]
    rw [List.getElem?_eq_getElem this] at h
    simpa using h

theorem G_cr (l : List Nat) : ∀ (k a : Nat), a + k = l.length → G (S l) ⟨#[13]⟩ ⟨#[10]⟩ a = crs (l.drop a) := by
  intro k
  induction k with
  | zero =>
    intro a hk
    have : a = (S l).length := by rw [S_len]; omega
    rw [this, G_end (by show 1 ≤ 1; omega), S_len, List.drop_length]
    rfl
  | succ k ih =>
    intro a hk
    have ha : a < l.length := by omega
    rw [List.drop_eq_getElem_cons ha]
    by_cases hh : hit (S l) ⟨#[13]⟩ (S l).length a = true
    · have h1 := (hit_one' l 13 a).mp hh
      rw [List.getElem?_eq_getElem ha] at h1
      simp only [Option.some.injEq] at h1
      rw [G_hit (nolap_one _ _ _) hh (by show 1 ≤ 1; omega)]
      show [10] ++ G (S l) ⟨#[13]⟩ ⟨#[10]⟩ (a + 1) = _
      rw [ih (a + 1) (by omega)]
      simp [crs, h1]
    · have hq : ¬ l[a]? = some 13 := fun q => hh ((hit_one' l 13 a).mpr q)
      rw [List.getElem?_eq_getElem ha] at hq
      simp only [Option.some.injEq] at hq
      rw [G_miss hh (by rw [S_len]; exact ha), ih (a + 1) (by omega)]
      show l[a] :: crs (l.drop (a + 1)) = (if l[a] = 13 then 10 else l[a]) :: crs (l.drop (a + 1))
      rw [if_neg hq]

theorem replace_cr (l : List Nat) : Txt.replace (S l) ⟨#[13]⟩ ⟨#[10]⟩ = S (crs l) := by
  have h := replace_G (z := ⟨#[10]⟩) (nolap_one (S l) 13 _) (by show 1 ≤ 1; omega)
  rw [G_cr l l.length 0 (by omega), List.drop_zero] at h
  rw [S_of (Txt.replace _ _ _), h]

end Mine
namespace Mine
open PySem.Builtin PySem.Builtin.Str PySem.StrLaws PySem.Calls

/-! ### slices -/
def clipI (n : Nat) (i : Int) : Nat := (max 0 (min (if i < 0 then i + n else i) (n : Int))).toNat
def loI (n : Nat) : Option Int → Nat | none => 0 | some i => clipI n i
def hiI (n : Nat) : Option Int → Nat | none => n | some i => clipI n i
theorem clipI_le (n : Nat) (i : Int) : clipI n i ≤ n := by unfold clipI; split <;> omega
theorem loI_le (n : Nat) (o : Option Int) : loI n o ≤ n := by cases o <;> simp [loI, clipI_le]
theorem hiI_le (n : Nat) (o : Option Int) : hiI n o ≤ n := by cases o <;> simp [hiI, clipI_le]

theorem idx_clip (lo hi : Option Int) (n : Nat) : strSliceIndices lo hi 1 n = strSliceIndices (some (loI n lo : Int)) (some (hiI n hi : Int)) 1 n := by
  unfold strSliceIndices
  have g : ∀ k : Nat, k ≤ n → (max 0 (min (if (k : Int) < 0 then (k : Int) + n else k) (n : Int))) = k := by intro k hk; split <;> omega
  have e1 : (max 0 (min (if ((loI n lo : Nat) : Int) < 0 then ((loI n lo : Nat) : Int) + n else ((loI n lo : Nat) : Int)) (n : Int))) = (loI n lo : Nat) := g _ (loI_le n lo)
  have e2 : (max 0 (min (if ((hiI n hi : Nat) : Int) < 0 then ((hiI n hi : Nat) : Int) + n else ((hiI n hi : Nat) : Int)) (n : Int))) = (hiI n hi : Nat) := g _ (hiI_le n hi)
  have p : ((1 : Int) > 0) = True := by simp
  simp only [p, if_true, e1, e2]
  congr 1
  · cases lo with
    | none => simp [loI]
    | some i => simp only [loI, clipI]; split <;> omega
  · cases hi with
    | none => simp [hiI]
    | some i => simp only [hiI, clipI]; split <;> omega

theorem slice_S (l : List Nat) (lo hi : Option Int) : Txt.slice (S l) lo hi = S ((l.take (hiI l.length hi)).drop (loI l.length lo)) := by
  unfold Txt.slice
  rw [S_len, idx_clip]
  have h1 := loI_le l.length lo
  have h2 := hiI_le l.length hi
  generalize loI l.length lo = a at *
  generalize hiI l.length hi = b at *
  by_cases hab : a ≤ b
  · rw [show strSliceIndices (some (a : Int)) (some (b : Int)) 1 l.length = (List.range (b - a)).map (fun k => a + k) from strSliceIndices_plain hab h2]
    have hp := picks l (b - a) a (by omega)
    have hp' : (List.map (fun k => a + k) (List.range (b - a))).filterMap ((S l).cps[·]?) = (l.take b).drop a := by
      rw [List.drop_take]
      simpa using hp
    rw [hp']
    split
    · rename_i h
      have : b - a = l.length := by simpa using h
      have ha : a = 0 := by omega
      have hb : b = l.length := by omega
      subst ha; subst hb
      simp
    · rfl
  · have e : strSliceIndices (some (a : Int)) (some (b : Int)) 1 l.length = [] := by
      have g1 : ¬ ((a : Int) < 0) := by omega
      have g2 : ¬ ((b : Int) < 0) := by omega
      have g3 : ¬ (max 0 (min (a : Int) (l.length : Int)) < max 0 (min (b : Int) (l.length : Int))) := by omega
      simp only [strSliceIndices, sliceRange, g1, g2, if_false, g3, show ((1 : Int) > 0) = True from by simp, if_true]
      rfl
    rw [e]
    have : (l.take b).drop a = [] := List.drop_eq_nil_of_le (by simp; omega)
    rw [this]
    split
    · rename_i h
      have : 0 = l.length := by simpa using h
      rw [List.eq_nil_of_length_eq_zero this.symm]
    · rfl

theorem slice_take (l : List Nat) (n : Nat) : Txt.slice (S l) none (some (n : Int)) = S (l.take n) := by
  rw [slice_S]
  have : hiI l.length (some (n : Int)) = min n l.length := by show clipI _ _ = _; unfold clipI; rw [if_neg (by omega)]; omega
  rw [this]
  show S ((l.take _).drop 0) = _
  rw [List.drop_zero]
  rcases Nat.le_total n l.length with h | h
  · rw [Nat.min_eq_left h]
  · rw [Nat.min_eq_right h, List.take_of_length_le h, List.take_of_length_le (Nat.le_refl _)]
theorem slice_part (l : List Nat) (a n : Nat) : Txt.slice (S l) (some (a : Int)) (some ((a : Int) + (n : Int))) = S ((l.drop a).take n) := by
  rw [slice_S]
  have e1 : loI l.length (some (a : Int)) = min a l.length := by show clipI _ _ = _; unfold clipI; rw [if_neg (by omega)]; omega
  have e2 : hiI l.length (some ((a : Int) + n)) = min (a + n) l.length := by show clipI _ _ = _; unfold clipI; rw [if_neg (by omega)]; omega
  rw [e1, e2]
  congr 2
  rcases Nat.le_total a l.length with h | h
  · rw [Nat.min_eq_left h]
    rcases Nat.le_total (a + n) l.length with h2 | h2
    · rw [Nat.min_eq_left h2, List.drop_take]; congr 1; omega
    · rw [Nat.min_eq_right h2, List.take_length, List.take_of_length_le (by simp; omega)]
  · rw [Nat.min_eq_right h, List.drop_eq_nil_of_le (by simp; omega), List.drop_eq_nil_of_le h, List.take_nil]
theorem slice_init (l : List Nat) : Txt.slice (S l) none (some (-1)) = S l.dropLast := by
  rw [slice_S]
  have e2 : hiI l.length (some (-1)) = l.length - 1 := by show clipI _ _ = _; unfold clipI; rw [if_pos (by omega)]; omega
  rw [e2]
  show S ((l.take _).drop 0) = _
  rw [List.drop_zero, List.dropLast_eq_take]

/-! ### str.count, str.rfind with both bounds -/
section
variable {prog : Program} {w : World} {A : Around} {E : Value → Shared → Prop} {s : Shared} {x y : Str} {t u v v' : Tok} {Q : Value → Shared → Prop}
theorem gives_count4 (x y : Str) (hi : Nat) (t u v v' : Tok) (h : hi ≤ x.length) : Gives («str.count» ⟨[.str x t, .str y u, .int 0 v, .int (hi : Int) v'], []⟩) (.int (occurrences x y 0 hi (x.length + 1)).length) := by
  have e : min (max 0 (if (hi : Int) < 0 then (hi : Int) + x.length else (hi : Int))).toNat x.length = hi := by rw [if_neg (by omega)]; omega
  show Gives (retInt (occurrences x y 0 (min (max 0 (if (hi : Int) < 0 then (hi : Int) + x.length else (hi : Int))).toNat x.length) (x.length + 1)).length) _
  rw [e]
  exact .of_eq rfl
theorem gives_rfind4 (x y : Str) (hi : Nat) (t u v v' : Tok) (h : hi ≤ x.length) : Gives («str.rfind» ⟨[.str x t, .str y u, .int 0 v, .int (hi : Int) v'], []⟩) (.int (match lastOccurrence x y 0 hi with | some i => (i : Int) | none => -1)) := by
  have e : min (max 0 (if (hi : Int) < 0 then (hi : Int) + x.length else (hi : Int))).toNat x.length = hi := by rw [if_neg (by omega)]; omega
  show Gives (match lastOccurrence x y 0 (min (max 0 (if (hi : Int) < 0 then (hi : Int) + x.length else (hi : Int))).toNat x.length) with | some i => retInt i | none => (do rule "str.rfind.not-found"; retInt (-1))) _
  rw [e]
  cases lastOccurrence x y 0 hi with
  | none => exact .rule (.of_eq rfl)
  | some i => exact .of_eq rfl
theorem count4 {l : List Nat} {hi : Nat} (hy : y = ⟨#[10]⟩) (h : hi ≤ l.length) (hq : Q (.int ((l.take hi).count 10 : Nat) s.toks) { s with toks := s.toks + 1 }) :
    wpAny (model prog w) A (call (.builtin "str.count") [.str (S l) t, .str y u, .int 0 v, .int (hi : Int) v']) Q E s := by
  subst hy
  refine call_gives F.slot_str_count (typeIs_str _ _ _) F.entry_str_count (F.args_str_count_4 _ _ _ _) (gives_count4 (S l) _ hi t u v v' (by rw [S_len]; exact h)) ?_
  rw [count_one l 10 hi _ h (by rw [S_len]; omega)]
  exact hq
/-- the last line end before hi, or -1 -/
def rf (l : List Nat) (hi : Nat) : Int := match lastOccurrence (S l) ⟨#[10]⟩ 0 hi with | some i => (i : Int) | none => -1
theorem rfind4 {l : List Nat} {hi : Nat} (hy : y = ⟨#[10]⟩) (h : hi ≤ l.length) (hq : Q (.int (rf l hi) s.toks) { s with toks := s.toks + 1 }) :
    wpAny (model prog w) A (call (.builtin "str.rfind") [.str (S l) t, .str y u, .int 0 v, .int (hi : Int) v']) Q E s := by
  subst hy
  exact call_gives F.slot_str_rfind (typeIs_str _ _ _) F.entry_str_rfind (F.args_str_rfind_4 _ _ _ _) (gives_rfind4 (S l) _ hi t u v v' (by rw [S_len]; exact h)) hq
theorem rf_none {l : List Nat} {hi : Nat} (p : Nat × Nat) (h : hi ≤ l.length) (e : rf l hi = -1) : ((l.take hi).foldl adv p).2 = p.2 + hi := by
  rw [← cols_of l hi p h]
  cases hq : lastOccurrence (S l) ⟨#[10]⟩ 0 hi with
  | none => rfl
  | some i =>
    have ef : rf l hi = (i : Int) := by unfold rf; rw [hq]
    omega
theorem rf_some {l : List Nat} {hi : Nat} (p : Nat × Nat) (h : hi ≤ l.length) (e : rf l hi ≠ -1) : (((l.take hi).foldl adv p).2 : Int) = hi - (rf l hi + 1) := by
  rw [← cols_of l hi p h]
  cases hq : lastOccurrence (S l) ⟨#[10]⟩ 0 hi with
  | none => exact absurd (show rf l hi = -1 by unfold rf; rw [hq]) e
  | some i =>
    have ef : rf l hi = (i : Int) := by unfold rf; rw [hq]
    have := last_lt l 10 hi i h hq
    rw [ef]
    show ((hi - (i + 1) : Nat) : Int) = (hi : Int) - ((i : Int) + 1)
    omega
end

/-! ### the stream, plainly -/
structure St where
  chunk : List Nat
  off : Nat
  errs : Nat
  pl : Nat
  pc : Nat
  buf : Option Nat
  place : Nat

def St.pos (st : St) (o : Nat) : Nat × Nat := (st.chunk.take o).foldl adv (st.pl, st.pc)
def isInv (c : Nat) : Bool := (1 ≤ c && c ≤ 8) || c == 11 || (14 ≤ c && c ≤ 31) || (127 ≤ c && c ≤ 159) || (64976 ≤ c && c ≤ 65007) || (c % 65536 == 65534 || c % 65536 == 65535) || (55296 ≤ c && c ≤ 57343)
/-- a sign that waits for the next piece -/
def waits (c : Nat) : Bool := c == 13 || (55296 ≤ c && c ≤ 56319)
def split (data : List Nat) : List Nat × Option Nat := if 1 < data.length ∧ waits (data.getLastD 0) = true then (data.dropLast, some (data.getLastD 0)) else (data, none)
theorem split_len (l : List Nat) : (split l).1.length ≤ l.length := by
  unfold split
  split
  · simp
  · exact Nat.le_refl _
theorem split_yes {l : List Nat} (h : 1 < l.length) (h2 : l.getLastD 0 = 13 ∨ (55296 ≤ l.getLastD 0 ∧ l.getLastD 0 ≤ 56319)) : split l = (l.dropLast, some (l.getLastD 0)) := by
  unfold split
  have hw : waits (l.getLastD 0) = true := by
    simp only [waits, Bool.or_eq_true, beq_iff_eq, Bool.and_eq_true, decide_eq_true_eq]
    exact h2
  rw [if_pos ⟨h, hw⟩]
theorem split_no {l : List Nat} (h : ¬ (1 < l.length ∧ (l.getLastD 0 = 13 ∨ (55296 ≤ l.getLastD 0 ∧ l.getLastD 0 ≤ 56319)))) : split l = (l, none) := by
  unfold split
  rw [if_neg (fun q => h ⟨q.1, by
    have hq := q.2
    simp only [waits, Bool.or_eq_true, beq_iff_eq, Bool.and_eq_true, decide_eq_true_eq] at hq
    exact hq⟩)]
/-- a piece of the text -/
def partOf (R : List Nat) (size place : Nat) : List Nat := (R.drop place).take size
theorem partOf_len (R : List Nat) (size place : Nat) : (partOf R size place).length = min size (R.length - place) := by simp [partOf]
def St.data (R : List Nat) (size : Nat) (st : St) : List Nat := st.buf.toList ++ partOf R size st.place
def St.fetch (R : List Nat) (size : Nat) (st : St) : St :=
  let p := st.pos st.chunk.length
  let d := split (st.data R size)
  { chunk := norm d.1, off := 0, errs := st.errs + d.1.countP isInv, pl := p.1, pc := p.2, buf := d.2, place := st.place + (partOf R size st.place).length }

theorem crlf_ne : ∀ {l : List Nat}, l ≠ [] → crlf l ≠ []
  | [], h => absurd rfl h
  | [_], _ => by simp [crlf]
  | c :: d :: r, _ => by
    rw [crlf]
    split <;> exact List.cons_ne_nil _ _
theorem norm_ne {l : List Nat} (h : l ≠ []) : norm l ≠ [] := by
  unfold norm crs
  intro e
  exact crlf_ne h (List.map_eq_nil_iff.mp e)
theorem split_ne {l : List Nat} (h : l ≠ []) : (split l).1 ≠ [] := by
  unfold split
  split
  · rename_i hh
    intro e
    have := congrArg List.length e
    simp at this
    omega
  · exact h
theorem fetch_ne {R : List Nat} {size : Nat} {st : St} (h : st.data R size ≠ []) : (st.fetch R size).chunk ≠ [] := norm_ne (split_ne h)
/-- char -/
def St.charR (R : List Nat) (st : St) : Option Nat × St :=
  if st.off < st.chunk.length then (some (st.chunk.getD st.off 0), { st with off := st.off + 1 })
  else if st.data R 10240 = [] then (none, st.fetch R 10240)
  else (some ((st.fetch R 10240).chunk.getD 0 0), { st.fetch R 10240 with off := 1 })
/-- unget of a sign -/
def St.unget (c : Nat) (st : St) : St := if st.off = 0 then { st with chunk := c :: st.chunk } else { st with off := st.off - 1 }
end Mine
namespace Mine
open PySem.Builtin PySem.Builtin.Str PySem.StrLaws PySem.Calls

/-! ### steps over texts, by their code points -/
section
variable {prog : Program} {w : World} {A : Around} {E : Value → Shared → Prop} {s : Shared} {value slice : PySem.Expr} {l b : List Nat} {t u v : Tok} {h₀ : Heap} {L : Addr} {m : Str → Option Value} {news : List (Addr × Obj)} {Q : Value → Shared → Prop}
theorem len_S (hl : l.length ≤ 10000000) (h : Q (.int (l.length : Int) (s.toks + 1)) { s with toks := s.toks + 1 + 1 }) : wpAny (model prog w) A (call (.builtin "len") [.str (S l) t]) Q E s :=
  P.len_str (by rw [S_len]; omega) (by rw [S_len]; exact h)
theorem add_S (hl : l.length + b.length ≤ 10000000) (h : ∀ t' k, Q (.str (S (l ++ b)) t') { s with toks := k }) : wpAny (model prog w) A (binaryOp .Add (.str (S l) t) (.str (S b) u)) Q E s := by
  refine KOpn.add (by rw [S_len, S_len]; omega) fun t' k _ => ?_
  rw [S_app]
  exact h t' k
theorem iadd_S (hl : l.length + b.length ≤ 10000000) (h : ∀ t' k, Q (.str (S (l ++ b)) t') { s with toks := k }) : wpAny (model prog w) A (inplaceOp .Add (.str (S l) t) (.str (S b) u)) Q E s := by
  refine SBL.iadd (hsz := by rw [S_len, S_len, PySem.sizeLine_eq]; omega) fun t' k _ => ?_
  rw [S_app]
  exact h t' k
theorem item_S {k : Nat} (hk : k < l.length) (hl : l.length ≤ 10000000) (h : Q (.str (S [l.getD k 0]) s.toks) { s with toks := s.toks + 1 })
    (hs : subscripted slice false (.str (S l) t) (.int (k : Int) u) = operate [.str (S l) t, .int (k : Int) u] (getItem (.str (S l) t) (.int (k : Int) u)) := by with_unfolding_all rfl)
    (ht : ∀ r, letTemporaryGo value (.str (S l) t) r = pure () := by intro _; with_unfolding_all rfl) :
    wpAny (model prog w) A (subscriptTail value slice (.str (S l) t) (.int (k : Int) u)) Q E s := by
  refine KXi.item (S_len l) (by omega) (by omega) (by omega) (fun _ => ?_) hs ht
  have e : Txt.item (S l) (k : Int) = S [l.getD k 0] := by
    have e1 : seqIndex? (k : Int) (S l).length = some k := by
      unfold seqIndex?
      rw [S_len, if_neg (show ¬ ((k : Int) < 0) by omega), if_pos (by simp; omega)]
      rfl
    unfold Txt.item Txt.charAt
    rw [e1]
    show (⟨#[((S l).cps[k]?).getD 0]⟩ : Str) = _
    simp [List.getD_eq_getElem?_getD]
  rw [e]; exact h
theorem item_Si {i : Int} (h0 : 0 ≤ i) (hk : i < (l.length : Int)) (hl : l.length ≤ 10000000) (h : Q (.str (S [l.getD i.toNat 0]) s.toks) { s with toks := s.toks + 1 })
    (hs : subscripted slice false (.str (S l) t) (.int i u) = operate [.str (S l) t, .int i u] (getItem (.str (S l) t) (.int i u)) := by with_unfolding_all rfl)
    (ht : ∀ r, letTemporaryGo value (.str (S l) t) r = pure () := by intro _; with_unfolding_all rfl) :
    wpAny (model prog w) A (subscriptTail value slice (.str (S l) t) (.int i u)) Q E s := by
  obtain ⟨k, rfl⟩ := Int.eq_ofNat_of_zero_le h0
  exact item_S (k := k) (by omega) hl (by simpa using h) hs ht
theorem last_S (hk : l ≠ []) (hl : l.length ≤ 10000000) (h : Q (.str (S [l.getLastD 0]) s.toks) { s with toks := s.toks + 1 })
    (hs : subscripted slice false (.str (S l) t) (.int (-1) u) = operate [.str (S l) t, .int (-1) u] (getItem (.str (S l) t) (.int (-1) u)) := by with_unfolding_all rfl)
    (ht : ∀ r, letTemporaryGo value (.str (S l) t) r = pure () := by intro _; with_unfolding_all rfl) :
    wpAny (model prog w) A (subscriptTail value slice (.str (S l) t) (.int (-1) u)) Q E s := by
  have hp : 0 < l.length := List.length_pos_iff.mpr hk
  refine KXi.item (S_len l) (by omega) (by omega) (by omega) (fun _ => ?_) hs ht
  have e : Txt.item (S l) (-1) = S [l.getLastD 0] := by
    have e1 : seqIndex? (-1) (S l).length = some (l.length - 1) := by
      unfold seqIndex?
      rw [S_len, if_pos (show (-1 : Int) < 0 by decide), if_pos (by simp; omega)]
      congr 1
      omega
    unfold Txt.item Txt.charAt
    rw [e1]
    show (⟨#[((S l).cps[l.length - 1]?).getD 0]⟩ : Str) = _
    simp [List.getLastD_eq_getLast?, List.getLast?_eq_getElem?]
  rw [e]; exact h
theorem ord_S {c : Nat} (h : Q (.int (c : Int) s.toks) { s with toks := s.toks + 1 }) : wpAny (model prog w) A (call (.builtin "ord") [.str (S [c]) t]) Q E s := P.ord_of_char h
theorem eq_S (h : Q (.bool (decide (l = b))) s) : wpAny (model prog w) A (compareOp .Eq (.str (S l) t) (.str (S b) u)) Q E s := by
  refine P.eq_str ?_
  have e : ((S l).cps.toList == (S b).cps.toList) = decide (l = b) := by
    show (l == b) = _
    rw [Bool.eq_iff_iff]; simp
  rw [e]; exact h
theorem ne_S (h : Q (.bool (decide (l ≠ b))) s) : wpAny (model prog w) A (compareOp .NotEq (.str (S l) t) (.str (S b) u)) Q E s := by
  refine P.ne_str ?_
  have e : ((S l).cps.toList != (S b).cps.toList) = decide (l ≠ b) := by
    show (l != b) = _
    rw [Bool.eq_iff_iff]; simp
  rw [e]; exact h
theorem truthy_S {Q : Bool → Shared → Prop} (hl : l.length ≤ 10000000) (h : Q (decide (l ≠ [])) { s with toks := s.toks + 1 + 1 }) : wpAny (model prog w) A (truthy (.str (S l) t)) Q E s := by
  refine P.truthy_str (by rw [S_len]; omega) ?_
  have e : (((S l).length : Int) != 0) = decide (l ≠ []) := by
    rw [S_len, Bool.eq_iff_iff]; simp
  rw [e]; exact h

theorem part_S {a n : Nat} {ui uj : Tok} (hF : Fr h₀ L s.heap m) (hN : News h₀ L s.heap news) (hl : l.length ≤ 10000000) (h : ∀ h' t' k, Fr h₀ L h' m → News h₀ L h' news → Q (.str (S ((l.drop a).take n)) t') { s with heap := h', toks := k })
    (hs : subscripted slice false (.str (S l) t) (.ref s.heap.objs.size) = operate [.ref s.heap.objs.size, .str (S l) t] (getItem (.str (S l) t) (.ref s.heap.objs.size)) := by with_unfolding_all rfl)
    (ht : ∀ r, letTemporaryGo value (.str (S l) t) r = pure () := by intro _; with_unfolding_all rfl) :
    wpAny (model prog w) A (subscriptTail value slice (.str (S l) t) (.ref s.heap.objs.size)) Q E { s with heap := s.heap.push { cls := .type "slice", data := .fields #[.int (a : Int) ui, .int ((a : Int) + (n : Int)) uj, .none] } } :=
  slice_strN_ss hF hN (fun h' t' k F N => by rw [slice_part]; exact h h' t' k F N) hs ht (by rw [S_len, PySem.sizeLine_eq]; omega)
theorem take_S {n : Nat} {uj : Tok} (hF : Fr h₀ L s.heap m) (hN : News h₀ L s.heap news) (hl : l.length ≤ 10000000) (h : ∀ h' t' k, Fr h₀ L h' m → News h₀ L h' news → Q (.str (S (l.take n)) t') { s with heap := h', toks := k })
    (hs : subscripted slice false (.str (S l) t) (.ref s.heap.objs.size) = operate [.ref s.heap.objs.size, .str (S l) t] (getItem (.str (S l) t) (.ref s.heap.objs.size)) := by with_unfolding_all rfl)
    (ht : ∀ r, letTemporaryGo value (.str (S l) t) r = pure () := by intro _; with_unfolding_all rfl) :
    wpAny (model prog w) A (subscriptTail value slice (.str (S l) t) (.ref s.heap.objs.size)) Q E { s with heap := s.heap.push { cls := .type "slice", data := .fields #[.none, .int (n : Int) uj, .none] } } :=
  slice_strN_ns hF hN (fun h' t' k F N => by rw [slice_take]; exact h h' t' k F N) hs ht (by rw [S_len, PySem.sizeLine_eq]; omega)
theorem init_S {uj : Tok} (hF : Fr h₀ L s.heap m) (hN : News h₀ L s.heap news) (hl : l.length ≤ 10000000) (h : ∀ h' t' k, Fr h₀ L h' m → News h₀ L h' news → Q (.str (S l.dropLast) t') { s with heap := h', toks := k })
    (hs : subscripted slice false (.str (S l) t) (.ref s.heap.objs.size) = operate [.ref s.heap.objs.size, .str (S l) t] (getItem (.str (S l) t) (.ref s.heap.objs.size)) := by with_unfolding_all rfl)
    (ht : ∀ r, letTemporaryGo value (.str (S l) t) r = pure () := by intro _; with_unfolding_all rfl) :
    wpAny (model prog w) A (subscriptTail value slice (.str (S l) t) (.ref s.heap.objs.size)) Q E { s with heap := s.heap.push { cls := .type "slice", data := .fields #[.none, .int (-1) uj, .none] } } :=
  slice_strN_ns hF hN (fun h' t' k F N => by rw [slice_init]; exact h h' t' k F N) hs ht (by rw [S_len, PySem.sizeLine_eq]; omega)

theorem crlf_len : ∀ l : List Nat, (crlf l).length ≤ l.length
  | [] => Nat.le_refl _
  | [_] => Nat.le_refl _
  | c :: d :: r => by
    rw [crlf]
    split
    · have := crlf_len r; simp only [List.length_cons]; omega
    · have := crlf_len (d :: r); simp only [List.length_cons] at *; omega
theorem crs_len (l : List Nat) : (crs l).length = l.length := by simp [crs]
theorem norm_len (l : List Nat) : (norm l).length ≤ l.length := by unfold norm; rw [crs_len]; exact crlf_len l
theorem repl_crlf_S {y z : Str} (hy : y = ⟨#[13, 10]⟩) (hz : z = ⟨#[10]⟩) (hu : u ≠ 0) (hv : v ≠ 0) (huv : u ≠ v) (hl : l.length ≤ 1000000) (h : ∀ t' k, s.toks ≤ k → Q (.str (S (crlf l)) t') { s with toks := k }) :
    wpAny (model prog w) A (call (.builtin "str.replace") [.str (S l) t, .str y u, .str z v]) Q E s := by
  subst hy; subst hz
  refine wpAny_with_toks (Nat.le_refl s.toks) (SC.replace hu hv huv (by decide) (by rw [S_len]; show l.length + (l.length + 1) * 1 ≤ _; omega) fun t' k => ?_)
  intro hk
  rw [replace_crlf]; exact h t' k hk
theorem repl_cr_S {y z : Str} (hy : y = ⟨#[13]⟩) (hz : z = ⟨#[10]⟩) (hu : u ≠ 0) (hv : v ≠ 0) (huv : u ≠ v) (hl : l.length ≤ 1000000) (h : ∀ t' k, s.toks ≤ k → Q (.str (S (crs l)) t') { s with toks := k }) :
    wpAny (model prog w) A (call (.builtin "str.replace") [.str (S l) t, .str y u, .str z v]) Q E s := by
  subst hy; subst hz
  refine wpAny_with_toks (Nat.le_refl s.toks) (SC.replace hu hv huv (by decide) (by rw [S_len]; show l.length + (l.length + 1) * 1 ≤ _; omega) fun t' k => ?_)
  intro hk
  rw [replace_cr]; exact h t' k hk
end
end Mine
namespace Mine
open PySem.Builtin PySem.Builtin.Str PySem.StrLaws PySem.Calls

section
variable {prog : Program} {w : World} {A : Around} {E : Value → Shared → Prop} {s : Shared} {env : Env} {h₀ : Heap} {x : PySem.Str} {body : List Stmt} {Q : Flow → Shared → Prop}
/-- a loop over a text's signs: loop_invN over the text's own iterator -/
theorem loop_S {l : List Nat} {tx : Tok} {m₀ : PySem.Str → Option Value} {news : List (Addr × Obj)} (J : Nat → (PySem.Str → Option Value) → List (Addr × Obj) → Prop)
    (hh : A.handled = none) (F : Fr h₀ env.locals s.heap m₀) (N : News h₀ env.locals s.heap news) (hj : J 0 m₀ news)
    (turn : ∀ i c t m₁ news₁ h tk own, l[i]? = some c → news₁.map (·.1) = news.map (·.1) → OwnOff own (news.map (·.1)) → J i m₁ news₁ → Fr h₀ env.locals h (fun y => if y = x then some (.str (S [c]) t) else m₁ y) → News h₀ env.locals h (news₁ ++ own) →
      wpAny (model prog w) A (execs body env) (InvPostN h₀ env.locals (J (i + 1)) own (news.map (·.1)) { s with heap := h, toks := tk } Q) E { s with heap := h, toks := tk })
    (done : ∀ m₁ news₁ h tk, J l.length m₁ news₁ → Fr h₀ env.locals h m₁ → News h₀ env.locals h news₁ → Q .next { s with heap := h, toks := tk }) :
    wpAny (model prog w) A (pyIter (.str (S l) tx)) (fun it s₂ => LoopAtV prog w A h₀ env x body Q E it s₂) E s :=
  wpAny_pyIter_str fun o St walks st0 =>
    have own1 : env.locals ∉ [s.heap.objs.size] := by rw [List.mem_singleton]; exact Nat.ne_of_lt F.ns.lt
    have fresh : ∀ b ∈ [s.heap.objs.size], h₀.get? b = none := by simpa using next_is_new F
    have apart : ∀ p ∈ news, p.1 ∉ [s.heap.objs.size] := fun p hp => by rw [List.mem_singleton]; exact N.apart p hp
    loop_invN J (walks A hh) own1 fresh apart apart st0 (F.push o) (N.grown fun _ _ => Heap.get?_push_of_some o) hj
      (fun i v m₁ nx h tk own _ sign adr off hJ F₁ N₁ => by
        obtain ⟨c, t, hc, hv⟩ := sign
        subst hv
        exact turn i c t m₁ nx h tk own ((List.getElem?_toArray (xs := l)).symm.trans hc) adr off hJ F₁ N₁)
      fun m₁ nx h tk hJ F₁ N₁ => done m₁ nx h tk (S_len l ▸ hJ) F₁ N₁

/-- an end that keeps the addresses is an end of the growing kind -/
theorem InvPostN.grows {g : Heap} {L : Addr} {J J' : (PySem.Str → Option Value) → List (Addr × Obj) → Prop} {own : List (Addr × Obj)} {adr : List Addr} {s₁ s₂ : Shared} {f : Flow} (off : OwnOff own adr) (hJ : ∀ m nx, nx.map (·.1) = adr → J m nx → J' m nx) :
    InvPostN g L J own adr s₁ Q f s₂ → InvPostG g L J' own s₁ Q f s₂ := by
  have up : InvEndN g L J own adr s₁ s₂ → InvEndG g L J' own s₁ s₂ := fun ⟨_, _, _, _, nx, e, F', N', hn, ho, ha, hm⟩ => e ▸ InvEndG.intro F' N' (hJ _ _ ha hm) (ha.symm ▸ off) hn ho
  cases f with
  | next => exact up
  | cont => exact up
  | brk => exact fun p => p
  | ret v => exact fun p => p
/-- a loop over a list of the ledger whose turns keep the ledger's addresses: kdl_iter, the addresses in the invariant -/
theorem loop_L {l : Addr} {vs : List Value} {nn : Nat} {m₀ : PySem.Str → Option Value} {news : List (Addr × Obj)} (J : Nat → (PySem.Str → Option Value) → List (Addr × Obj) → Prop)
    (hh : A.handled = none) (hl : (l, W.listOf vs.toArray nn) ∈ news) (F : Fr h₀ env.locals s.heap m₀) (N : News h₀ env.locals s.heap news) (hj : J 0 m₀ news)
    (turn : ∀ i v m₁ news₁ h tk own, vs[i]? = some v → news₁.map (·.1) = news.map (·.1) → OwnOff own (news.map (·.1)) → (l, W.listOf vs.toArray nn) ∈ news₁ → J i m₁ news₁ → Fr h₀ env.locals h (fun y => if y = x then some v else m₁ y) → News h₀ env.locals h (news₁ ++ own) →
      wpAny (model prog w) A (execs body env) (InvPostN h₀ env.locals (fun m' nx => (l, W.listOf vs.toArray nn) ∈ nx ∧ J (i + 1) m' nx) own (news.map (·.1)) { s with heap := h, toks := tk } Q) E { s with heap := h, toks := tk })
    (done : ∀ m₁ news₁ h tk, (l, W.listOf vs.toArray nn) ∈ news₁ → J vs.length m₁ news₁ → Fr h₀ env.locals h m₁ → News h₀ env.locals h news₁ → Q .next { s with heap := h, toks := tk }) :
    wpAny (model prog w) A (pyIter (.ref l)) (fun it s₂ => LoopAtV prog w A h₀ env x body Q E it s₂) E s :=
  kdl_iter (fun i m nx => (l, W.listOf vs.toArray nn) ∈ nx ∧ nx.map (·.1) = news.map (·.1) ∧ J i m nx) hh hl F N ⟨hl, rfl, hj⟩
    (fun i v m₁ nx h tk own hv off hm hJ F₁ N₁ =>
      have off' : OwnOff own (news.map (·.1)) := hJ.2.1 ▸ off
      wpAny_mono (turn i v m₁ nx h tk own hv hJ.2.1 off' hm hJ.2.2 F₁ N₁) (fun _ _ => InvPostN.grows off' fun _ _ ha hq => ⟨hq.1, hq.1, ha, hq.2⟩) fun _ _ e => e)
    fun m₁ nx h tk hJ => done m₁ nx h tk hJ.1 hJ.2.2

/-- the same with the frame's map at the start handed to the word -/
theorem loop_Sm {l : List Nat} {tx : Tok} {m₀ : PySem.Str → Option Value} {news : List (Addr × Obj)} (J : (PySem.Str → Option Value) → Nat → (PySem.Str → Option Value) → List (Addr × Obj) → Prop)
    (hh : A.handled = none) (F : Fr h₀ env.locals s.heap m₀) (N : News h₀ env.locals s.heap news) (hj : J m₀ 0 m₀ news)
    (turn : ∀ i c t m₁ news₁ h tk own, l[i]? = some c → news₁.map (·.1) = news.map (·.1) → OwnOff own (news.map (·.1)) → J m₀ i m₁ news₁ → Fr h₀ env.locals h (fun y => if y = x then some (.str (S [c]) t) else m₁ y) → News h₀ env.locals h (news₁ ++ own) →
      wpAny (model prog w) A (execs body env) (InvPostN h₀ env.locals (J m₀ (i + 1)) own (news.map (·.1)) { s with heap := h, toks := tk } Q) E { s with heap := h, toks := tk })
    (done : ∀ m₁ news₁ h tk, J m₀ l.length m₁ news₁ → Fr h₀ env.locals h m₁ → News h₀ env.locals h news₁ → Q .next { s with heap := h, toks := tk }) :
    wpAny (model prog w) A (pyIter (.str (S l) tx)) (fun it s₂ => LoopAtV prog w A h₀ env x body Q E it s₂) E s := loop_S (J m₀) hh F N hj turn done
theorem loop_Lm {l : Addr} {vs : List Value} {nn : Nat} {m₀ : PySem.Str → Option Value} {news : List (Addr × Obj)} (J : (PySem.Str → Option Value) → Nat → (PySem.Str → Option Value) → List (Addr × Obj) → Prop)
    (hh : A.handled = none) (hl : (l, W.listOf vs.toArray nn) ∈ news) (F : Fr h₀ env.locals s.heap m₀) (N : News h₀ env.locals s.heap news) (hj : J m₀ 0 m₀ news)
    (turn : ∀ i v m₁ news₁ h tk own, vs[i]? = some v → news₁.map (·.1) = news.map (·.1) → OwnOff own (news.map (·.1)) → (l, W.listOf vs.toArray nn) ∈ news₁ → J m₀ i m₁ news₁ → Fr h₀ env.locals h (fun y => if y = x then some v else m₁ y) → News h₀ env.locals h (news₁ ++ own) →
      wpAny (model prog w) A (execs body env) (InvPostN h₀ env.locals (fun m' nx => (l, W.listOf vs.toArray nn) ∈ nx ∧ J m₀ (i + 1) m' nx) own (news.map (·.1)) { s with heap := h, toks := tk } Q) E { s with heap := h, toks := tk })
    (done : ∀ m₁ news₁ h tk, (l, W.listOf vs.toArray nn) ∈ news₁ → J m₀ vs.length m₁ news₁ → Fr h₀ env.locals h m₁ → News h₀ env.locals h news₁ → Q .next { s with heap := h, toks := tk }) :
    wpAny (model prog w) A (pyIter (.ref l)) (fun it s₂ => LoopAtV prog w A h₀ env x body Q E it s₂) E s := loop_L (J m₀) hh hl F N hj turn done
theorem mix1 (x : PySem.Str) (m₀ : PySem.Str → Option Value) : ∃ u : Option Value, m₀ = fun z => if z = x then u else m₀ z := ⟨m₀ x, by funext z; split <;> simp_all⟩
end

theorem noBool_method : typeLookup (.type "method") "__bool__" = pure none := by rw [typeLookup_type, builtinLookup_eq_fast]; kernel_rfl
theorem noLen_method : typeLookup (.type "method") "__len__" = pure none := by rw [typeLookup_type, builtinLookup_eq_fast]; kernel_rfl
theorem truthy_meth {M : Model} {A : Around} {E : Value → Shared → Prop} {s : Shared} {h₀ : Heap} {L q : Addr} {f self : Value} {news : List (Addr × Obj)} {Q : Bool → Shared → Prop} (N : News h₀ L s.heap news) (hq : (q, methodObj f self) ∈ news) (h : Q true s) :
    wpAny M A (truthy (.ref q)) Q E s := by
  have ho : s.heap.get? q = some (methodObj f self) := (N _ hq).1
  unfold truthy
  refine wpAny_bind (m := callSpecial? (.ref q) (PySem.Str.ofString "__bool__")) (wpAny_bind (wpAny_bind (wpAny_typeOf_ref ho ?_)))
  show wpAny M A (typeLookup (.type "method") "__bool__") _ _ _
  rw [noBool_method]
  refine wpAny_pure (wpAny_pure ?_)
  refine wpAny_bind (wpAny_bind (wpAny_typeOf_ref ho ?_))
  show wpAny M A (typeLookup (.type "method") "__len__") _ _ _
  rw [noLen_method]
  exact wpAny_pure (wpAny_pure h)

theorem gen_toks {α : Type} {M : Model} {A : Around} {t : Sem α} {Q : α → Shared → Prop} {E : Value → Shared → Prop} {s : Shared} (hp : (1 : Nat) ≤ s.toks) (k : ∀ tk : Nat, (1 : Nat) ≤ tk → wpAny M A t Q E { s with toks := tk }) : wpAny M A t Q E s := k s.toks hp

/-! ### ways that meet behind a statement -/
def JoinN (n : Nat) (g : Heap) (L : Addr) (s : Shared) (P : (PySem.Str → Option Value) → List (Addr × Obj) → Prop) (s' : Shared) : Prop :=
  ∃ h' tk' m' nw', s' = { s with heap := h', toks := tk' } ∧ n ≤ tk' ∧ P m' nw' ∧ Fr g L h' m' ∧ News g L h' nw'
def JoinP (n : Nat) (g : Heap) (L : Addr) (s : Shared) (P : (PySem.Str → Option Value) → List (Addr × Obj) → Prop) (Q : Flow → Shared → Prop) (f : Flow) (s' : Shared) : Prop :=
  match f with
  | .next => JoinN n g L s P s'
  | f => Q f s'
theorem join_if {n : Nat} {M : Model} {A : Around} {t : Sem Flow} {E : Value → Shared → Prop} {s : Shared} {g : Heap} {L : Addr} {m : PySem.Str → Option Value} {Q : Flow → Shared → Prop} (F : Fr g L s.heap m) (P : (PySem.Str → Option Value) → List (Addr × Obj) → Prop)
    (h1 : wpAny M A t (JoinP n g L s P Q) E s)
    (h2 : ∀ (h' : Heap) (tk' : Nat) (m' : PySem.Str → Option Value) (nw' : List (Addr × Obj)), n ≤ tk' → P m' nw' → Fr g L h' m' → News g L h' nw' → Q .next { s with heap := h', toks := tk' }) : wpAny M A t Q E s :=
  wpAny_mono h1 (fun f s' h => by
    cases f with
    | next => obtain ⟨h', tk', m', nw', rfl, ht, hP, F', N'⟩ := h; exact h2 h' tk' m' nw' ht hP F' N'
    | brk => exact h
    | cont => exact h
    | ret v => exact h) (fun _ _ h => h)
theorem join_end {n : Nat} {g : Heap} {L : Addr} {s : Shared} {P : (PySem.Str → Option Value) → List (Addr × Obj) → Prop} {h' : Heap} {tk' : Nat} {m' : PySem.Str → Option Value} {nw' : List (Addr × Obj)} (F : Fr g L h' m') (N : News g L h' nw') (ht : n ≤ tk') (hP : P m' nw') : JoinN n g L s P { s with heap := h', toks := tk' } :=
  ⟨h', tk', m', nw', rfl, ht, hP, F, N⟩

theorem mixL {x : PySem.Str} {m' k : PySem.Str → Option Value} (h : ∀ z, z ≠ x → m' z = k z) : ∃ u, m' = fun z => if z = x then u else k z :=
  ⟨m' x, by
    funext z
    by_cases hz : z = x
    · rw [if_pos hz, hz]
    · rw [if_neg hz]; exact h z hz⟩
end Mine
namespace Mine
open PySem.Builtin PySem.Builtin.Str PySem.StrLaws PySem.Calls

/-! ### mended texts -/
theorem norm_cr_lf (t : List Nat) : norm (13 :: 10 :: t) = 10 :: norm t := by
  unfold norm
  rw [crlf, if_pos ⟨rfl, rfl⟩]
  rfl
theorem norm_cons (c : Nat) (l : List Nat) (h : ¬ (c = 13 ∧ l.head? = some 10)) : norm (c :: l) = (if c = 13 then 10 else c) :: norm l := by
  unfold norm
  cases l with
  | nil => rfl
  | cons d t =>
    rw [crlf, if_neg (fun q => h ⟨q.1, by rw [q.2]; rfl⟩)]
    rfl
theorem norm_app : ∀ (a b : List Nat), ¬ (a.getLast? = some 13 ∧ b.head? = some 10) → norm (a ++ b) = norm a ++ norm b
  | [], b, _ => rfl
  | [c], b, h => by
    show norm (c :: b) = _
    rw [norm_cons c b (fun q => h ⟨by rw [q.1]; rfl, q.2⟩)]
    rfl
  | c :: d :: t, b, h => by
    by_cases q : c = 13 ∧ d = 10
    · obtain ⟨rfl, rfl⟩ := q
      rw [List.cons_append, List.cons_append, norm_cr_lf, norm_cr_lf]
      rw [norm_app t b ?_]
      · rfl
      · intro g
        refine h ⟨?_, g.2⟩
        cases t with
        | nil => exact absurd g.1 (by simp)
        | cons e r => rw [List.getLast?_cons_cons, List.getLast?_cons_cons]; exact g.1
    · rw [norm_cons c (d :: t) (fun g => q ⟨g.1, by simpa using g.2⟩), List.cons_append, norm_cons c (d :: t ++ b) (fun g => q ⟨g.1, by simpa using g.2⟩), norm_app (d :: t) b ?_]
      · rfl
      · intro g
        exact h ⟨by rw [List.getLast?_cons_cons]; exact g.1, g.2⟩
/-- the signs that a sign gives behind another -/
def mendS (b : Option Nat) (c : Nat) : List Nat := if c = 13 then [10] else if c = 10 ∧ b = some 13 then [] else [c]
def mend : Option Nat → List Nat → List Nat
  | _, [] => []
  | b, c :: r => mendS b c ++ mend (some c) r
theorem mend_norm : ∀ (l : List Nat) (b : Option Nat), mend b l = if b = some 13 ∧ l.head? = some 10 then norm l.tail else norm l
  | [], b => by simp [mend, norm, crlf, crs]
  | c :: r, b => by
    rw [mend, mend_norm r (some c)]
    by_cases h1 : b = some 13 ∧ c = 10
    · obtain ⟨rfl, rfl⟩ := h1
      simp [mendS]
    · rw [show (if b = some 13 ∧ (c :: r).head? = some 10 then norm (c :: r).tail else norm (c :: r)) = norm (c :: r) from if_neg (fun q => h1 ⟨q.1, by simpa using q.2⟩)]
      unfold mendS
      by_cases h2 : c = 13
      · subst h2
        rw [if_pos rfl]
        by_cases h3 : r.head? = some 10
        · rw [if_pos ⟨rfl, h3⟩]
          cases r with
          | nil => simp at h3
          | cons d t =>
            have : d = 10 := by simpa using h3
            subst this
            rw [norm_cr_lf]
            rfl
        · rw [if_neg (fun q => h3 q.2), norm_cons _ _ (fun q => h3 q.2)]
          rfl
      · rw [if_neg h2, if_neg (fun q => h1 ⟨q.2, q.1⟩), if_neg (fun q => h2 (by simpa using q.1)), norm_cons _ _ (fun q => h2 q.1), if_neg h2]
        rfl
theorem mend_none (l : List Nat) : mend none l = norm l := by rw [mend_norm]; simp
theorem mend_snoc : ∀ (l : List Nat) (b : Option Nat) (c : Nat), mend b (l ++ [c]) = mend b l ++ mendS (match l.getLast? with | some d => some d | none => b) c
  | [], b, c => by simp [mend]
  | d :: r, b, c => by
    rw [List.cons_append, mend, mend, mend_snoc r (some d) c, List.append_assoc]
    congr 3
    cases r with
    | nil => rfl
    | cons e t => rw [List.getLast?_cons_cons]; cases h : (e :: t).getLast? with | none => simp at h | some z => rfl
theorem mend_take {l : List Nat} {i c : Nat} (h : l[i]? = some c) : mend none (l.take (i + 1)) = mend none (l.take i) ++ mendS (l.take i).getLast? c := by
  rw [List.take_add_one, h]
  show mend none (l.take i ++ [c]) = _
  rw [mend_snoc]
  cases (l.take i).getLast? <;> rfl
theorem last_take {l : List Nat} {i c : Nat} (h : l[i]? = some c) : (l.take (i + 1)).getLast? = some c := by
  rw [List.take_add_one, h]
  simp
theorem mend_len (l : List Nat) : (mend none l).length ≤ l.length := by rw [mend_none]; exact norm_len l

theorem mendS_a {b : Option Nat} {c : Nat} (h : [c] = [13]) : mendS b c = [10] := by unfold mendS; rw [if_pos (by simpa using h)]
theorem mendS_b {b : Option Nat} {c : Nat} (h : ¬ [c] = [13]) (h2 : [c] ≠ [10]) : mendS b c = [c] := by
  unfold mendS
  rw [if_neg (by simpa using h), if_neg (fun q => h2 (by rw [q.1]))]
theorem mendS_c {b : Option Nat} {c : Nat} (h : ¬ [c] = [13]) (h2 : b.toList ≠ [13]) : mendS b c = [c] := by
  unfold mendS
  rw [if_neg (by simpa using h), if_neg (fun q => h2 (by rw [q.2]; rfl))]
theorem mendS_d {b : Option Nat} {c : Nat} (h : ¬ [c] = [13]) (h2 : ¬ [c] ≠ [10]) (h3 : ¬ b.toList ≠ [13]) : mendS b c = [] := by
  unfold mendS
  have e2 := Decidable.not_not.mp h2
  have e3 := Decidable.not_not.mp h3
  rw [if_neg (by simpa using h), if_pos ⟨by simpa using e2, by cases b <;> simp_all⟩]
/-! ### the cut -/
def cutR (raw : List Nat) (start taken : Nat) : Nat := if raw.getD (taken - 1) 0 = 13 ∧ start < taken - 1 then taken - 1 else taken
theorem cut_a {l : List Nat} {start k : Nat} (h : [l.getD (((k + 1 : Nat) : Int) - 1).toNat 0] = [13]) (h2 : (start : Int) < ((k + 1 : Nat) : Int) - 1) : ((k + 1 : Nat) : Int) - 1 = (cutR l start (k + 1) : Nat) := by
  have e : (((k + 1 : Nat) : Int) - 1).toNat = k := by omega
  rw [e] at h
  unfold cutR
  rw [if_pos ⟨by simpa using h, by omega⟩]
  omega
theorem cut_b {l : List Nat} {start k : Nat} (h2 : ¬ (start : Int) < ((k + 1 : Nat) : Int) - 1) : ((k + 1 : Nat) : Int) = (cutR l start (k + 1) : Nat) := by
  unfold cutR
  rw [if_neg (fun q => h2 (by omega))]
theorem cut_c {l : List Nat} {start k : Nat} (h : ¬ [l.getD (((k + 1 : Nat) : Int) - 1).toNat 0] = [13]) : ((k + 1 : Nat) : Int) = (cutR l start (k + 1) : Nat) := by
  have e : (((k + 1 : Nat) : Int) - 1).toNat = k := by omega
  rw [e] at h
  unfold cutR
  rw [if_neg (fun q => h (by simpa using q.1))]
/-! ### literals of one sign -/
section
variable {prog : Program} {w : World} {A : Around} {E : Value → Shared → Prop} {s : Shared} {l : List Nat} {y : Str} {t u : Tok} {Q : Value → Shared → Prop}
theorem eq_lit (b : List Nat) (hy : y = S b) (h : Q (.bool (decide (l = b))) s) : wpAny (model prog w) A (compareOp .Eq (.str (S l) t) (.str y u)) Q E s := by
  subst hy; exact eq_S h
theorem ne_lit (b : List Nat) (hy : y = S b) (h : Q (.bool (decide (l ≠ b))) s) : wpAny (model prog w) A (compareOp .NotEq (.str (S l) t) (.str y u)) Q E s := by
  subst hy; exact ne_S h
theorem iadd_lit (b : List Nat) (hy : y = S b) (hl : l.length + b.length ≤ 10000000) (h : ∀ t' k, Q (.str (S (l ++ b)) t') { s with toks := k }) : wpAny (model prog w) A (inplaceOp .Add (.str (S l) t) (.str y u)) Q E s := by
  subst hy; exact iadd_S hl h
end
end Mine
namespace Mine
open PySem.Builtin PySem.Builtin.Str PySem.StrLaws PySem.Calls

/-! ### list comprehensions by an invariant -/
section
variable {prog : Program} {w : World} {A : Around} {E : Value → Shared → Prop} {s : Shared} {h₀ : Heap} {L : Addr} {m : Str → Option Value} {env : Env}
theorem rest_inv {elt : Expr} {x : Str} {scope : Scope} {cl : List (Str × Addr)} {SS : List (Addr × Obj) → Prop} {P : Nat → Value → Prop} {Fin : List Value → List (Addr × Obj) → Prop} {n : Nat} {news : List (Addr × Obj)}
    (J : Nat → List Value → List (Addr × Obj) → Prop) (hj : J 0 [] news)
    (turn : ∀ i v ys nw I oI C oC D m₂ h tk (E' : Value → Shared → Prop), i < n → P i v → J i ys nw → LCg.NsObj oC m₂ → m₂ x = some v → Fr h₀ L h m → News h₀ L h ((I, oI) :: (C, oC) :: (D, LCg.lst ys) :: nw) → LCg.Off3 I C D nw → ((@Ne Nat I C) ∧ (@Ne Nat I D) ∧ (@Ne Nat C D)) →
      wpAny (model prog w) A (eval elt (compEnvC scope cl C env)) (LCg.CompEnd h₀ L m { s with heap := h, toks := tk } I oI C oC D (LCg.lst ys) SS (fun y nw' => J (i + 1) (ys ++ [y]) nw')) E' { s with heap := h, toks := tk })
    (done : ∀ ys nw, J n ys nw → Fin ys nw) : LCg.CompRest prog w A h₀ L m env elt x scope cl s SS P Fin n 0 [] news := by
  have key : ∀ (j i : Nat) (ys : List Value) (nw : List (Addr × Obj)), i + j = n → J i ys nw → LCg.CompRest prog w A h₀ L m env elt x scope cl s SS P Fin j i ys nw := by
    intro j
    induction j with
    | zero =>
      intro i ys nw hi hy
      obtain rfl : i = n := by omega
      exact LCg.CompRest.zero (done ys nw hy)
    | succ j ih =>
      intro i ys nw hi hy
      refine LCg.CompRest.succ fun v I oI C oC D m₂ h tk E' hv hC hx F N off ne => ?_
      refine wpAny_mono (turn i v ys nw I oI C oC D m₂ h tk E' (by omega) hv hy hC hx F N off ne) (fun y s₂ hq => ?_) fun _ _ e => e
      obtain ⟨h', tk', nw', e, F', N', off', hS, hJ⟩ := hq
      exact ⟨h', tk', nw', e, F', N', off', hS, ih (i + 1) _ _ (by omega) hJ⟩
  exact key n 0 [] news (by omega) hj
/-- the end of a turn, told of a weaker rest -/
theorem end_mono {I C D : Addr} {oI oC oD : Obj} {SS : List (Addr × Obj) → Prop} {r r' : Value → List (Addr × Obj) → Prop} {y : Value} {s₁ s₂ : Shared} (h : ∀ y nw, r y nw → r' y nw) : LCg.CompEnd h₀ L m s₁ I oI C oC D oD SS r y s₂ → LCg.CompEnd h₀ L m s₁ I oI C oC D oD SS r' y s₂ :=
  fun ⟨_, _, nw, e, F, N, off, q, z⟩ => e ▸ LCg.CompEnd.intro F N nw (fun _ hp => hp) off q (h y nw z)
theorem restT_inv {ct elt : Expr} {x : Str} {scope : Scope} {cl : List (Str × Addr)} {SS : List (Addr × Obj) → Prop} {P : Nat → Value → Prop} {Fin : List Value → List (Addr × Obj) → Prop} {n : Nat} {news : List (Addr × Obj)}
    (J : Nat → List Value → List (Addr × Obj) → Prop) (hj : J 0 [] news)
    (turn : ∀ i v ys nw I oI C oC D m₂ h tk (E' : Value → Shared → Prop), i < n → P i v → J i ys nw → LCg.NsObj oC m₂ → m₂ x = some v → Fr h₀ L h m → News h₀ L h ((I, oI) :: (C, oC) :: (D, LCg.lst ys) :: nw) → LCg.Off3 I C D nw → ((@Ne Nat I C) ∧ (@Ne Nat I D) ∧ (@Ne Nat C D)) →
      wpAny (model prog w) A (isTrue ct (compEnvC scope cl C env) (eval ct (compEnvC scope cl C env))) (fun ok s' => if ok = true then
        wpAny (model prog w) A (eval elt (compEnvC scope cl C env)) (LCg.CompEnd h₀ L m { s with heap := h, toks := tk } I oI C oC D (LCg.lst ys) SS (fun y nw' => J (i + 1) (ys ++ [y]) nw')) E' s'
        else LCg.CompEnd h₀ L m { s with heap := h, toks := tk } I oI C oC D (LCg.lst ys) SS (fun _ nw' => J (i + 1) ys nw') Value.none s') E' { s with heap := h, toks := tk })
    (done : ∀ ys nw, J n ys nw → Fin ys nw) : LCt.CompRestT prog w A h₀ L m env ct elt x scope cl s SS P Fin n 0 [] news := by
  have key : ∀ (j i : Nat) (ys : List Value) (nw : List (Addr × Obj)), i + j = n → J i ys nw → LCt.CompRestT prog w A h₀ L m env ct elt x scope cl s SS P Fin j i ys nw := by
    intro j
    induction j with
    | zero =>
      intro i ys nw hi hy
      obtain rfl : i = n := by lia
      exact LCt.CompRestT.zero (done ys nw hy)
    | succ j ih =>
      intro i ys nw hi hy
      refine LCt.CompRestT.succ fun v I oI C oC D m₂ h tk E' hv hC hx F N off ne => ?_
      have next : ∀ {y : Value} {us : List Value} {s₃ : Shared}, LCg.CompEnd h₀ L m { s with heap := h, toks := tk } I oI C oC D (LCg.lst ys) SS (fun _ nw' => J (i + 1) us nw') y s₃ → LCg.CompEnd h₀ L m { s with heap := h, toks := tk } I oI C oC D (LCg.lst ys) SS (fun _ nw' => LCt.CompRestT prog w A h₀ L m env ct elt x scope cl s SS P Fin j (i + 1) us nw') y s₃ :=
        end_mono fun _ nw' q => ih (i + 1) _ nw' (by lia) q
      exact wpAny_mono (turn i v ys nw I oI C oC D m₂ h tk E' (by lia) hv hy hC hx F N off ne) (fun ok s₂ hq => by
        by_cases e : ok = true
        · rw [if_pos e] at hq ⊢
          exact wpAny_mono hq (fun y s₃ q => end_mono (fun _ nw' q => ih (i + 1) _ nw' (by lia) q) q) fun _ _ q => q
        · rw [if_neg e] at hq ⊢
          exact next hq) fun _ _ q => q
  exact key n 0 [] news (by lia) hj

/-- what the iterable, a text, leaves: the turns -/
def SrcText (prog : Program) (w : World) (A : Around) (h₀ : Heap) (L : Addr) (m : Str → Option Value) (env : Env) (ct elt : Expr) (x : Str) (scope : Scope) (cl : List (Str × Addr)) (Fin : Shared → List Value → List (Addr × Obj) → Prop) (xv : Value) (s₁ : Shared) : Prop :=
  ∃ (l : List Nat) (t : Tok) (news : List (Addr × Obj)), xv = .str (S l) t ∧ A.handled = none ∧ Fr h₀ L s₁.heap m ∧ News h₀ L s₁.heap news ∧ l.length ≤ 10000000 ∧
    ∀ g, LCt.CompRestT prog w A h₀ L m env ct elt x scope cl { s₁ with heap := g } (fun _ => True) (fun i v => ∃ c t, l[i]? = some c ∧ v = .str (S [c]) t) (Fin { s₁ with heap := g }) l.length 0 [] news
end
end Mine
namespace Mine
open PySem.Builtin PySem.Builtin.Str PySem.StrLaws PySem.Calls

/-! ### ledgers turned -/
section
variable {h₀ h : Heap} {L : Addr} {t a1 a2 a3 a4 a5 a6 a7 : Addr × Obj} {r : List (Addr × Obj)}
end
/-! ### what the stream's ways leave -/
structure Ok (R : List Nat) (st : St) : Prop where
  hR : R.length ≤ 1000
  hp : st.place ≤ 1000
  hc : st.chunk.length ≤ 10000
  he : st.errs ≤ 100000
  ho : st.off ≤ st.chunk.length

theorem fetch_len {R : List Nat} {size : Nat} {st : St} (hR : R.length ≤ 1000) : (st.fetch R size).chunk.length ≤ 2000 := by
  refine Nat.le_trans (norm_len _) (Nat.le_trans (split_len _) ?_)
  simp only [St.data, List.length_append, partOf_len]
  have : st.buf.toList.length ≤ 1 := by cases st.buf <;> simp
  omega
end Mine
namespace Mine
open PySem.Builtin PySem.Builtin.Str PySem.StrLaws PySem.Calls PySem.Spec PyProof.V

/-! ### tuples and lists compared -/
section
variable {prog : Program} {w : World} {A : Around} {E : Value → Shared → Prop} {s : Shared} {h₀ : Heap} {L D D' : Addr} {news : List (Addr × Obj)} {Q : Value → Shared → Prop}
theorem strs_canLayAll0 (ns : List Str) (h : ns.all PyData.strOk = true) : PyData.canLayAll0 (ns.map PyData.str) = true := by
  induction ns with
  | nil => rfl
  | cons x r ih =>
    simp only [List.all_cons, Bool.and_eq_true] at h
    simp [PyData.canLayAll0, PyData.canLay0, ih h.2, h.1]
theorem strs_depthAll : ∀ ns : List Str, PyData.depthAll (ns.map PyData.str) = 0
  | [] => rfl
  | _ :: r => by simp [PyData.depthAll, PyData.depth, strs_depthAll r]
theorem strs_shaped (ns : List Str) (h : ns.all PyData.strOk = true) : SeqAt.shaped (.list (ns.map PyData.str)) = true := by
  simp [SeqAt.shaped, PyData.canLay0, PyData.depth, strs_canLayAll0 ns h, strs_depthAll]
theorem strs_eqvAll (ns : List Str) : ∀ ms : List Str, PyData.eqvAll (ns.map PyData.str) (ms.map PyData.str) = decide (ns = ms) := by
  induction ns with
  | nil => intro ms; cases ms <;> rfl
  | cons a r ih =>
    intro ms
    cases ms with
    | nil => rfl
    | cons b t =>
      rw [List.map_cons, List.map_cons, PyData.eqvAll, PyData.eqv, ih t]
      by_cases e : a = b <;> simp [e]
theorem ne_strs {xs ys : List Value} {ns ms : List Str} (ha : s.heap.IsList D xs.toArray) (hb : s.heap.IsList D' ys.toArray) (hi : StrsAre xs ns) (hj : StrsAre ys ms) (hn : ns.all PyData.strOk = true) (hm : ms.all PyData.strOk = true) (hu : A.units + 64 < cLine) (h : Q (.bool (decide (ns ≠ ms))) s) :
    wpAny (model prog w) A (compareOp .NotEq (.ref D) (.ref D')) Q E s := by
  refine ne_dataH (reads_newData ha hi.carried) (reads_newData hb hj.carried) (strs_shaped _ hn) (strs_shaped _ hm) hu ?_
  have e : (!PyData.eqv (.list (ns.map PyData.str)) (.list (ms.map PyData.str))) = decide (ns ≠ ms) := by
    simp only [PyData.eqv, strs_eqvAll]
    by_cases h : ns = ms <;> simp [h]
  rw [e]; exact h
end
end Mine
namespace Mine
open PySem.Builtin PySem.Builtin.Str PySem.StrLaws PySem.Calls

/-! ### texts glued -/
theorem strs_values : ∀ {vs : List Value} {ts : List Str}, StrsAre vs ts → ∃ l : List (Str × Tok), vs = strValues l ∧ l.map (·.1) = ts
  | _, _, .nil => ⟨[], rfl, rfl⟩
  | _, _, .cons y t r => by
    obtain ⟨l, h1, h2⟩ := strs_values r
    exact ⟨(y, t) :: l, by rw [h1]; rfl, by rw [← h2]; rfl⟩
theorem glue_S : ∀ ls : List (List Nat), PySem.Str.join (S []) (ls.map S) = S ls.flatten
  | [] => by decide +kernel
  | [a] => by
    show S a = _
    simp
  | a :: b :: r => by
    refine PySem.Str.ext' ?_
    have h := join_cons (S []) (S a) (S b :: r.map S) (List.cons_ne_nil _ _)
    have ih := congrArg (fun z => z.cps.toList) (glue_S (b :: r))
    have e : (PySem.Str.join (S []) ((a :: b :: r).map S)).cps.toList = (S (a :: b :: r).flatten).cps.toList := by
      show (PySem.Str.join (S []) (S a :: S b :: r.map S)).cps.toList = _
      rw [h]
      have ih' : (PySem.Str.join (S []) (S b :: r.map S)).cps.toList = (b :: r).flatten := ih
      rw [ih', List.flatten_cons]
      simp
    exact Array.toList_inj.mp e
section
variable {prog : Program} {w : World} {A : Around} {E : Value → Shared → Prop} {s : Shared} {D : Addr} {Q : Value → Shared → Prop}
theorem join_S {vs : List Value} {ls : List (List Nat)} {R : List Nat} (hR : ls.flatten = R) {y : Str} {t : Tok} (hy : y = S []) (hl : s.heap.IsList D vs.toArray) (hv : StrsAre vs (ls.map S)) (hn : ls.length ≤ 100) (hB : ∀ l ∈ ls, l.length ≤ 100)
    (h : ∀ t' k, Q (.str (S R) t') { s with toks := k }) : wpAny (model prog w) A (call (.builtin "str.join") [.str y t, .ref D]) Q E s := by
  subst hy hR
  obtain ⟨l, rfl, h2⟩ := strs_values hv
  refine SC.join hl h2 ?_ fun t' k => ?_
  · unfold JoinOk
    have hb : ∀ y ∈ ls.map S, y.length ≤ 100 := fun y hy => by
      obtain ⟨z, hz, rfl⟩ := List.mem_map.mp hy
      rw [S_len]; exact hB z hz
    rw [joinFits hb (by
      rw [List.length_map]
      show ls.length * 100 + ls.length * 0 ≤ _
      omega)]
    rfl
  · have e : Txt.join (S []) (ls.map S) = S ls.flatten := (glued_eq_join _ _).trans (glue_S ls)
    rw [e]; exact h t' k
end
end Mine
namespace Mine
open PySem.Builtin PySem.Builtin.Str PySem.StrLaws PySem.Calls

/-! ### the stream over its text, plainly -/
def St.cut (st : St) : Nat := st.place - st.buf.toList.length
def Inv (R : List Nat) (st : St) (p : Nat) : Prop :=
  ∃ A B C : List Nat, A ++ (B ++ C) = R ∧ C = st.buf.toList ++ R.drop st.place ∧ ¬ (A.getLast? = some 13 ∧ (B ++ C).head? = some 10) ∧ ¬ ((A ++ B).getLast? = some 13 ∧ C.head? = some 10) ∧
    st.chunk = norm B ∧ st.errs = (A ++ B).countP isInv ∧ (st.pl, st.pc) = (norm A).foldl adv (0, 0) ∧ st.off ≤ st.chunk.length ∧ p = (norm A).length + st.off ∧ st.place ≤ R.length
theorem norm_two {A B C : List Nat} (h1 : ¬ (A.getLast? = some 13 ∧ (B ++ C).head? = some 10)) : norm (A ++ B) = norm A ++ norm B := by
  refine norm_app A B fun g => h1 ⟨g.1, ?_⟩
  cases B with
  | nil => exact absurd g.2 (by simp)
  | cons b r => exact g.2
theorem norm_tail {A B C : List Nat} (h2 : ¬ ((A ++ B).getLast? = some 13 ∧ C.head? = some 10)) : norm (B ++ C) = norm B ++ norm C := by
  refine norm_app B C fun g => h2 ⟨?_, g.2⟩
  rw [List.getLast?_append, g.1]
  rfl
theorem norm_three {A B C : List Nat} (h1 : ¬ (A.getLast? = some 13 ∧ (B ++ C).head? = some 10)) (h2 : ¬ ((A ++ B).getLast? = some 13 ∧ C.head? = some 10)) : norm (A ++ (B ++ C)) = norm A ++ (norm B ++ norm C) := by
  rw [norm_app A (B ++ C) h1, norm_tail h2]
theorem norm_nil : norm [] = [] := rfl
theorem norm_eq_nil {l : List Nat} (h : norm l = []) : l = [] := by
  cases l with
  | nil => rfl
  | cons a r => exact absurd h (norm_ne (List.cons_ne_nil _ _))
theorem inv_start {R : List Nat} : Inv R ⟨[], 0, 0, 0, 0, none, 0⟩ 0 := ⟨[], [], R, rfl, rfl, by simp, by simp, rfl, rfl, rfl, Nat.le_refl _, rfl, Nat.zero_le _⟩
theorem split_app (D : List Nat) : (split D).1 ++ (split D).2.toList = D := by
  unfold split
  split
  · rename_i h
    have hne : D ≠ [] := by intro e; rw [e] at h; simp at h
    have : D.getLastD 0 = D.getLast hne := by rw [List.getLastD_eq_getLast?, List.getLast?_eq_some_getLast hne]; rfl
    show D.dropLast ++ [D.getLastD 0] = D
    rw [this, List.dropLast_concat_getLast]
  · simp
/-- no halves of pairs -/
def Plain (R : List Nat) : Prop := ∀ c ∈ R, waits c = true → c = 13
theorem part_drop (R : List Nat) (size place : Nat) : partOf R size place ++ R.drop (place + (partOf R size place).length) = R.drop place := by
  unfold partOf
  have h := List.take_append_drop size (R.drop place)
  rw [List.drop_drop] at h
  rw [List.length_take, List.length_drop]
  rcases Nat.le_total size (R.length - place) with q | q
  · rw [Nat.min_eq_left q]; exact h
  · rw [Nat.min_eq_right q]
    rw [List.drop_eq_nil_of_le (by omega) (i := place + (R.length - place)), List.append_nil, List.take_of_length_le (by simp; omega)]
theorem inv_fetch {R : List Nat} {st : St} {p size : Nat} (hi : Inv R st p) (hR : Plain R) (he : st.off = st.chunk.length) (hs : 2 ≤ size) :
    Inv R (st.fetch R size) p ∧ decide (st.data R size ≠ []) = decide (p < (norm R).length) := by
  obtain ⟨A, B, C, hABC, hC, h1, h2, hch, her, hpos, ho, hp, hpl⟩ := hi
  have hD : st.data R size ++ R.drop (st.place + (partOf R size st.place).length) = C := by
    rw [hC]
    unfold St.data
    rw [List.append_assoc, part_drop]
  have hlen : (partOf R size st.place).length = min size (R.length - st.place) := partOf_len _ _ _
  have hN : norm R = norm A ++ (norm B ++ norm C) := by rw [← hABC]; exact norm_three h1 h2
  have hDC : st.data R size = [] ↔ C = [] := by
    constructor
    · intro e
      have e2 : partOf R size st.place = [] := (List.append_eq_nil_iff.mp e).2
      rw [e2, List.length_nil] at hlen
      rw [e, List.nil_append] at hD
      rw [← hD]
      exact List.drop_eq_nil_of_le (by omega)
    · intro e
      rw [e] at hD
      exact (List.append_eq_nil_iff.mp hD).1
  have hmem : ∀ c ∈ st.data R size, c ∈ R := fun c hc => by
    rw [← hABC]
    refine List.mem_append.mpr (.inr (List.mem_append.mpr (.inr ?_)))
    rw [← hD]
    exact List.mem_append.mpr (.inl hc)
  refine ⟨⟨A ++ B, (split (st.data R size)).1, (split (st.data R size)).2.toList ++ R.drop (st.place + (partOf R size st.place).length), ?_, rfl, ?_, ?_, rfl, ?_, ?_, Nat.zero_le _, ?_, ?_⟩, ?_⟩
  · rw [← List.append_assoc (split _).1, split_app, hD, List.append_assoc, hABC]
  · rw [← List.append_assoc (split _).1, split_app, hD]; exact h2
  · rintro ⟨g1, g2⟩
    by_cases hl : (st.data R size).length ≤ 1
    · have e : R.drop (st.place + (partOf R size st.place).length) = [] := by
        refine List.drop_eq_nil_of_le ?_
        have : (partOf R size st.place).length ≤ (st.data R size).length := by unfold St.data; rw [List.length_append]; omega
        omega
      rw [split_no (by omega), e] at g2
      simp at g2
    · by_cases hw : waits ((st.data R size).getLastD 0) = true
      · have hsp : split (st.data R size) = ((st.data R size).dropLast, some ((st.data R size).getLastD 0)) := by
          unfold split
          rw [if_pos ⟨by omega, hw⟩]
        rw [hsp] at g2
        have hne : st.data R size ≠ [] := by intro e; rw [e] at hl; simp at hl
        have hm : (st.data R size).getLastD 0 ∈ R := hmem _ (by
          rw [List.getLastD_eq_getLast?, List.getLast?_eq_some_getLast hne]
          exact List.getLast_mem hne)
        have h13 := hR _ hm hw
        rw [h13] at g2
        simp at g2
      · have hsp : split (st.data R size) = (st.data R size, none) := by
          unfold split
          rw [if_neg (fun q => hw q.2)]
        rw [hsp] at g1
        have hne : st.data R size ≠ [] := by intro e; rw [e] at hl; simp at hl
        have g3 : (st.data R size).getLast? = some 13 := by
          rw [List.getLast?_append, List.getLast?_eq_some_getLast hne] at g1
          rw [List.getLast?_eq_some_getLast hne]
          exact g1
        refine hw ?_
        rw [List.getLastD_eq_getLast?, g3]
        rfl
  · show st.errs + _ = _
    rw [her, List.countP_append, List.countP_append, List.countP_append]
  · show st.pos st.chunk.length = _
    unfold St.pos
    rw [List.take_length, hpos, hch, ← List.foldl_append, norm_two h1]
  · show p = _ + 0
    rw [norm_two h1, List.length_append, hp, he, hch]
    omega
  · show st.place + _ ≤ _
    omega
  · rw [Bool.eq_iff_iff]
    simp only [decide_eq_true_eq]
    rw [hN, List.length_append, List.length_append, hp, he, hch]
    constructor
    · intro h
      have : norm C ≠ [] := norm_ne fun e => h (hDC.mpr e)
      have := List.length_pos_iff.mpr this
      omega
    · intro h e
      rw [hDC.mp e, norm_nil] at h
      simp at h
end Mine
namespace Mine
open PySem.Builtin PySem.Builtin.Str PySem.StrLaws PySem.Calls

theorem inv_le {R : List Nat} {st : St} {p : Nat} (hi : Inv R st p) : p ≤ (norm R).length := by
  obtain ⟨A, B, C, hABC, hC, h1, h2, hch, her, hpos, ho, hp, hpl⟩ := hi
  rw [← hABC, norm_three h1 h2, List.length_append, List.length_append, hp]
  rw [hch] at ho
  omega
theorem inv_pos {R : List Nat} {st : St} {p : Nat} (hi : Inv R st p) : st.pos st.off = ((norm R).take p).foldl adv (0, 0) := by
  obtain ⟨A, B, C, hABC, hC, h1, h2, hch, her, hpos, ho, hp, hpl⟩ := hi
  unfold St.pos
  rw [hpos, hch, ← List.foldl_append, ← hABC, norm_three h1 h2, hp, List.take_length_add_append, List.take_append_of_le_length (by rw [← hch]; exact ho)]
theorem adv_shift : ∀ (l : List Nat) (p : Nat × Nat), l.foldl adv (p.1 + 1, p.2) = ((l.foldl adv p).1 + 1, (l.foldl adv p).2)
  | [], p => rfl
  | c :: r, p => by
    rw [List.foldl_cons, List.foldl_cons]
    have : adv (p.1 + 1, p.2) c = ((adv p c).1 + 1, (adv p c).2) := by unfold adv; split <;> rfl
    rw [this, adv_shift r (adv p c)]
theorem inv_spot {R : List Nat} {st : St} {p : Nat} (hi : Inv R st p) : ((norm R).take p).foldl adv (1, 0) = ((st.pos st.off).1 + 1, (st.pos st.off).2) := by
  rw [inv_pos hi]
  exact adv_shift _ (0, 0)
theorem inv_ok {R : List Nat} {st : St} {p : Nat} (hi : Inv R st p) (hR : R.length ≤ 1000) : Ok R st := by
  obtain ⟨A, B, C, hABC, hC, h1, h2, hch, her, hpos, ho, hp, hpl⟩ := hi
  have hl := congrArg List.length hABC
  rw [List.length_append, List.length_append] at hl
  refine ⟨hR, by omega, ?_, ?_, ho⟩
  · rw [hch]
    exact Nat.le_trans (norm_len B) (by omega)
  · rw [her]
    refine Nat.le_trans List.countP_le_length ?_
    rw [List.length_append]
    omega
theorem inv_cut {R : List Nat} {st : St} {p : Nat} (hi : Inv R st p) : ∃ A B C : List Nat, A ++ (B ++ C) = R ∧ C = st.buf.toList ++ R.drop st.place ∧ (A ++ B).length = st.cut ∧ R.take st.cut = A ++ B ∧ norm (A ++ B) = norm A ++ norm B ∧ st.chunk = norm B ∧ st.errs = (A ++ B).countP isInv ∧ p = (norm A).length + st.off ∧ st.buf.toList.length ≤ st.place := by
  obtain ⟨A, B, C, hABC, hC, h1, h2, hch, her, hpos, ho, hp, hpl⟩ := hi
  have hl := congrArg List.length hABC
  have hl2 := congrArg List.length hC
  rw [List.length_append, List.length_append] at hl
  rw [List.length_append, List.length_drop] at hl2
  have hlen : (A ++ B).length = st.cut := by
    unfold St.cut
    rw [List.length_append]
    omega
  refine ⟨A, B, C, hABC, hC, hlen, ?_, norm_two h1, hch, her, hp, by omega⟩
  rw [← hlen, ← hABC, ← List.append_assoc, List.take_left']
  rfl
theorem inv_errs {R : List Nat} {st : St} {p : Nat} (hi : Inv R st p) : st.errs = (R.take st.cut).countP isInv := by
  obtain ⟨A, B, C, _, _, _, ht, _, _, her, _⟩ := inv_cut hi
  rw [ht, her]
theorem inv_until {R : List Nat} {st : St} {p : Nat} (hi : Inv R st p) : (norm (R.take st.cut)).length + st.off = p + st.chunk.length := by
  obtain ⟨A, B, C, _, _, _, ht, hn, hch, her, hp, _⟩ := inv_cut hi
  rw [ht, hn, List.length_append, hp, hch]
  omega
theorem inv_end {R : List Nat} {st : St} {p : Nat} (hi : Inv R st p) (he : ¬ p < (norm R).length) : st.errs = R.countP isInv ∧ st.off = st.chunk.length := by
  obtain ⟨A, B, C, hABC, hC, h1, h2, hch, her, hpos, ho, hp, hpl⟩ := hi
  rw [← hABC, norm_three h1 h2, List.length_append, List.length_append, hp] at he
  rw [hch] at ho
  have : norm C = [] := List.eq_nil_of_length_eq_zero (by omega)
  have hc := norm_eq_nil this
  refine ⟨?_, ?_⟩
  · rw [her, ← hABC, hc, List.append_nil]
  · rw [hch]; omega
theorem inv_data {R : List Nat} {st : St} {p : Nat} (hi : Inv R st p) (size : Nat) : ∃ P : List Nat, P.length = st.cut ∧ P ++ (st.data R size ++ R.drop (st.place + (partOf R size st.place).length)) = R := by
  obtain ⟨A, B, C, hABC, hC, hl, _⟩ := inv_cut hi
  refine ⟨A ++ B, hl, ?_⟩
  rw [List.append_assoc, ← hABC]
  congr 2
  rw [hABC, hC]
  unfold St.data
  rw [List.append_assoc, part_drop]
theorem inv_place {R : List Nat} {st : St} {p : Nat} (hi : Inv R st p) (size : Nat) : (st.fetch R size).place = min (st.place + size) R.length := by
  obtain ⟨A, B, C, hABC, hC, h1, h2, hch, her, hpos, ho, hp, hpl⟩ := hi
  show st.place + (partOf R size st.place).length = _
  rw [partOf_len]
  omega
theorem inv_cutR {R : List Nat} {st : St} {p size : Nat} (hi : Inv R st p) (hR : Plain R) : cutR R st.cut (st.fetch R size).place = (st.fetch R size).cut := by
  obtain ⟨P, hP, hPR⟩ := inv_data hi size
  obtain ⟨A, B, C, hABC, hC, hl, _, _, _, _, _, hbuf⟩ := inv_cut hi
  have hT : (st.fetch R size).place = st.cut + (st.data R size).length := by
    show st.place + (partOf R size st.place).length = _
    unfold St.data St.cut
    rw [List.length_append]
    omega
  have hlast : ∀ h : st.data R size ≠ [], R.getD ((st.fetch R size).place - 1) 0 = (st.data R size).getLastD 0 := by
    intro h
    have hpos := List.length_pos_iff.mpr h
    rw [hT, ← hP]
    have e : R.getD (P.length + (st.data R size).length - 1) 0 = (st.data R size).getD ((st.data R size).length - 1) 0 := by
      have e1 : R.getD (P.length + (st.data R size).length - 1) 0 = (P ++ (st.data R size ++ R.drop (st.place + (partOf R size st.place).length))).getD (P.length + (st.data R size).length - 1) 0 := by rw [hPR]
      rw [e1, List.getD_eq_getElem?_getD, List.getD_eq_getElem?_getD, List.getElem?_append_right (by omega), List.getElem?_append_left (by omega)]
      congr 2
      omega
    rw [e, List.getLastD_eq_getLast?, List.getLast?_eq_getElem?, List.getD_eq_getElem?_getD]
  have hb : (st.fetch R size).buf = (split (st.data R size)).2 := rfl
  unfold St.cut cutR
  rw [hb]
  by_cases hlen : 1 < (st.data R size).length
  · have hne : st.data R size ≠ [] := by intro e; rw [e] at hlen; simp at hlen
    by_cases hw : waits ((st.data R size).getLastD 0) = true
    · have hsp : split (st.data R size) = ((st.data R size).dropLast, some ((st.data R size).getLastD 0)) := by unfold split; rw [if_pos ⟨hlen, hw⟩]
      have hm : (st.data R size).getLastD 0 ∈ R := by
        have h1 : (st.data R size).getLastD 0 ∈ st.data R size := by
          rw [List.getLastD_eq_getLast?, List.getLast?_eq_some_getLast hne]
          exact List.getLast_mem hne
        have h2 : (st.data R size).getLastD 0 ∈ P ++ (st.data R size ++ R.drop (st.place + (partOf R size st.place).length)) := List.mem_append.mpr (.inr (List.mem_append.mpr (.inl h1)))
        rw [hPR] at h2
        exact h2
      rw [if_pos ⟨by rw [hlast hne]; exact hR _ hm hw, by unfold St.cut at hT; omega⟩, hsp]
      rfl
    · have hsp : split (st.data R size) = (st.data R size, none) := by unfold split; rw [if_neg (fun q => hw q.2)]
      rw [if_neg (fun q => hw (by rw [← hlast hne, q.1]; rfl)), hsp]
      rfl
  · have hsp : split (st.data R size) = (st.data R size, none) := by unfold split; rw [if_neg (fun q => hlen q.1)]
    rw [if_neg (fun q => hlen (by have := q.2; unfold St.cut at hT; omega)), hsp]
    rfl
/-- a sign read out of the chunk at hand -/
theorem inv_step {R : List Nat} {st : St} {p : Nat} (hi : Inv R st p) (ho : st.off < st.chunk.length) : Inv R { st with off := st.off + 1 } (p + 1) ∧ st.chunk.getD st.off 0 = (norm R).getD p 0 := by
  obtain ⟨A, B, C, hABC, hC, h1, h2, hch, her, hpos, ho', hp, hpl⟩ := hi
  refine ⟨⟨A, B, C, hABC, hC, h1, h2, hch, her, hpos, ho, by dsimp only; omega, hpl⟩, ?_⟩
  rw [← hABC, norm_three h1 h2, hp, hch, List.getD_eq_getElem?_getD, List.getD_eq_getElem?_getD, List.getElem?_append_right (by omega)]
  rw [hch] at ho
  rw [show (norm A).length + st.off - (norm A).length = st.off by omega, List.getElem?_append_left ho]
theorem inv_char_end {R : List Nat} {st : St} {p : Nat} (hi : Inv R st p) (hR : Plain R) (hp : ¬ p < (norm R).length) :
    ∃ st1, st.charR R = (none, st1) ∧ Inv R st1 p := by
  obtain ⟨_, he⟩ := inv_end hi hp
  obtain ⟨g1, g2⟩ := inv_fetch (size := 10240) hi hR he (by decide)
  have hd : st.data R 10240 = [] := by
    refine Decidable.not_not.mp fun h => hp ?_
    have : decide (st.data R 10240 ≠ []) = true := decide_eq_true h
    rw [g2] at this
    exact of_decide_eq_true this
  refine ⟨_, ?_, g1⟩
  unfold St.charR
  rw [if_neg (by omega), if_pos hd]
theorem inv_off {R : List Nat} {ck : List Nat} {er pl pc : Nat} {bf : Option Nat} {pla p : Nat} (hi : Inv R ⟨ck, 0, er, pl, pc, bf, pla⟩ p) {j : Nat} (hj : j ≤ ck.length) : Inv R ⟨ck, j, er, pl, pc, bf, pla⟩ (p + j) := by
  obtain ⟨A, B, C, hABC, hC, h1, h2, hch, her, hpos, ho', hp, hpl⟩ := hi
  exact ⟨A, B, C, hABC, hC, h1, h2, hch, her, hpos, hj, by dsimp only at hp ⊢; omega, hpl⟩
/-- all that a step asks, out of the chunk at hand -/
theorem step_at {R : List Nat} {ck : List Nat} {er pl pc : Nat} {bf : Option Nat} {pla p : Nat} (hi : Inv R ⟨ck, 0, er, pl, pc, bf, pla⟩ p) (hR : R.length ≤ 1000) {j : Nat} (hj : j < ck.length) :
    ∃ c, Ok R ⟨ck, j, er, pl, pc, bf, pla⟩ ∧ St.charR R ⟨ck, j, er, pl, pc, bf, pla⟩ = (some c, ⟨ck, j + 1, er, pl, pc, bf, pla⟩) ∧ (⟨ck, j + 1, er, pl, pc, bf, pla⟩ : St).errs ≤ 100000 ∧ p + j < (norm R).length ∧ (norm R).getD (p + j) 0 = c ∧
      ((norm R).take (p + j)).foldl adv (1, 0) = ((St.pos ⟨ck, j, er, pl, pc, bf, pla⟩ j).1 + 1, (St.pos ⟨ck, j, er, pl, pc, bf, pla⟩ j).2) := by
  have h1 := inv_off hi (Nat.le_of_lt hj)
  obtain ⟨h2, h3⟩ := inv_step h1 hj
  have hok := inv_ok h1 hR
  have hle := inv_le h2
  refine ⟨ck.getD j 0, hok, ?_, hok.he, by omega, h3.symm, inv_spot h1⟩
  unfold St.charR
  rw [if_pos hj]
end Mine
namespace Mine
open PySem.Builtin PySem.Builtin.Str PySem.StrLaws PySem.Calls

/-! ### the signs of laws 1 and 2 -/
def badS (c : Nat) : Bool := c == 1 || c == 64976
structure Raw (R : List Nat) : Prop where
  len : R.length ≤ 1000
  ne : R ≠ []
  plain : Plain R
  code : ∀ c ∈ R, c < 1114112
  bad : ∀ c ∈ R, isInv c = badS c
/-! ### whiles by an invariant that may speak of the frame at its start -/
section
variable {prog : Program} {w : World} {A : Around} {E : Value → Shared → Prop} {Q : Flow → Shared → Prop} {s : Shared} {env : Env} {h₀ : Heap} {L : Addr}
theorem while_m {test : Expr} {body : List Stmt} {pos : Pos} {m₀ : PySem.Str → Option Value} {news : List (Addr × Obj)} (J : (PySem.Str → Option Value) → Nat → (PySem.Str → Option Value) → List (Addr × Obj) → Prop) (n₀ : Nat)
    (F : Fr h₀ L s.heap m₀) (N : News h₀ L s.heap news) (hJ : J m₀ n₀ m₀ news)
    (turn : ∀ n m₁ news₁ h₁ tk₁, J m₀ n m₁ news₁ → Fr h₀ L h₁ m₁ → News h₀ L h₁ news₁ →
      wpAny (model prog w) A (isTrue test env (eval test env)) (fun b s₂ =>
        if b = true then wpAny (model prog w) A (execs body env) (WhileStep2 h₀ L s (J m₀) Q n) E s₂ else Q .next s₂) E { s with heap := h₁, toks := tk₁ })
    (hE : PassesOwn (model prog w) A env E := by first | assumption | passes_own) :
    wpAny (model prog w) A (exec (.While test body [] pos) env) Q E s := While_inv2 (J m₀) F N hJ (fun n m₁ news₁ h₁ tk₁ F₁ N₁ hj => turn n m₁ news₁ h₁ tk₁ hj F₁ N₁) hE
theorem wstep_end {J : Nat → (PySem.Str → Option Value) → List (Addr × Obj) → Prop} {n n' : Nat} {h' : Heap} {tk : Nat} {m₂ : PySem.Str → Option Value} {news₂ : List (Addr × Obj)} (F : Fr h₀ L h' m₂) (N : News h₀ L h' news₂) (hn : n' < n) (hJ : J n' m₂ news₂) :
    WhileStep2 h₀ L s J Q n .next { s with heap := h', toks := tk } := ⟨h', tk, m₂, news₂, n', rfl, F, N, hn, hJ⟩
end
theorem int_eq {a b : Int} {t : Tok} (h : a = b) : some (Value.int a t) = some (Value.int b t) := by rw [h]
/-! ### lists of one text over and over -/
theorem rep_inj {v : PySem.Str} {n m : Nat} : List.replicate n v = List.replicate m v ↔ n = m := ⟨fun h => by have := congrArg List.length h; simpa using this, fun h => by rw [h]⟩
theorem rep_ok {v : PySem.Str} (h : PyData.strOk v = true) (n : Nat) : (List.replicate n v).all PyData.strOk = true := by
  rw [List.all_eq_true]
  intro x hx
  rw [(List.mem_replicate.mp hx).2, h]
theorem ne_rep {prog : Program} {w : World} {A : Around} {E : Value → Shared → Prop} {s : Shared} {D D' : Addr} {Q : Value → Shared → Prop} {v : PySem.Str} {xs ys : List Value} {n m : Nat} (ha : s.heap.IsList D xs.toArray) (hb : s.heap.IsList D' ys.toArray)
    (hi : StrsAre xs (List.replicate n v)) (hj : StrsAre ys (List.replicate m v)) (hv : PyData.strOk v = true) (hu : A.units + 64 < cLine) (h : Q (.bool (decide (n ≠ m))) s) :
    wpAny (model prog w) A (compareOp .NotEq (.ref D) (.ref D')) Q E s := by
  refine ne_strs ha hb hi hj (rep_ok hv n) (rep_ok hv m) hu ?_
  have e : decide (List.replicate n v ≠ List.replicate m v) = decide (n ≠ m) := by
    rw [Bool.eq_iff_iff]
    simp only [decide_eq_true_eq]
    exact not_congr rep_inj
  rw [e]; exact h
end Mine
namespace Mine
open PySem.Builtin PySem.Builtin.Str PySem.StrLaws PySem.Calls

/-! ### law 3: the codes -/
def BORD : List Int := [0, 8, 9, 10, 11, 12, 13, 14, 31, 32, 127, 159, 160, 64975, 64976, 65007, 65008, 65533, 65534, 65535]
def codeI (n : Int) : Int := if 0 < n.fmod 3 then BORD.getD (n.fmod 20).toNat 0 + 65536 * (n.fdiv 20).fmod 17 else if 55296 ≤ (n.fdiv 3).fmod 1114112 ∧ (n.fdiv 3).fmod 1114112 < 57344 then (n.fdiv 3).fmod 1114112 - 55296 else (n.fdiv 3).fmod 1114112
theorem BORD_all : ∀ k : Nat, k < 20 → 0 ≤ BORD.getD k 0 ∧ BORD.getD k 0 < 65536 ∧ ¬ (55296 ≤ BORD.getD k 0 ∧ BORD.getD k 0 ≤ 57343) := by decide
theorem codeI_in (n : Int) : 0 ≤ codeI n ∧ codeI n < 1114112 ∧ ¬ (55296 ≤ codeI n ∧ codeI n ≤ 57343) := by
  unfold codeI
  have h1 := Int.fmod_nonneg_of_pos (n.fdiv 3) (show (0 : Int) < 1114112 by decide)
  have h2 := Int.fmod_lt_of_pos (n.fdiv 3) (show (0 : Int) < 1114112 by decide)
  have h3 := Int.fmod_nonneg_of_pos n (show (0 : Int) < 20 by decide)
  have h4 := Int.fmod_lt_of_pos n (show (0 : Int) < 20 by decide)
  have h5 := Int.fmod_nonneg_of_pos (n.fdiv 20) (show (0 : Int) < 17 by decide)
  have h6 := Int.fmod_lt_of_pos (n.fdiv 20) (show (0 : Int) < 17 by decide)
  obtain ⟨b1, b2, b3⟩ := BORD_all (n.fmod 20).toNat (by omega)
  split
  · omega
  · split <;> omega
def code (n : Int) : Nat := (codeI n).toNat
theorem code_eq (n : Int) : ((code n : Nat) : Int) = codeI n := Int.toNat_of_nonneg (codeI_in n).1
theorem code_lt (n : Int) : code n < 1114112 := by have := code_eq n; have := codeI_in n; omega
theorem code_plain (n : Int) : ¬ (55296 ≤ code n ∧ code n ≤ 57343) := by have := code_eq n; have := codeI_in n; omega
end Mine
namespace Mine
open PySem.Builtin PySem.Builtin.Str PySem.StrLaws PySem.Calls

/-! ### the first items of a list of ints -/
theorem ints_take : ∀ {vs : List Value} {ns : List Int} (n : Nat), IntsAre vs ns → IntsAre (vs.take n) (ns.take n)
  | _, _, 0, _ => by simp only [List.take_zero]; exact .nil
  | _, _, n + 1, .nil => by simp only [List.take_nil]; exact .nil
  | _, _, n + 1, .cons i t h => by simp only [List.take_succ_cons]; exact .cons i t (ints_take n h)
section
variable {prog : Program} {w : World} {A : Around} {E : Value → Shared → Prop} {s : Shared} {h₀ : Heap} {L l : Addr} {m : PySem.Str → Option Value} {news : List (Addr × Obj)} {value slice : PySem.Expr} {vs : List Value} {ns : List Int} {Q : Value → Shared → Prop}
theorem take_L {n : Nat} {u : Tok} (F : Fr h₀ L s.heap m) (N : News h₀ L s.heap news) (hl : s.heap.IsList l vs.toArray) (hI : IntsAre vs ns)
    (hz : vs.length ≤ 10000)
    (h : ∀ D ws h', Fr h₀ L h' m → News h₀ L h' ((D, W.listOf (List.toArray ws) 0) :: news) → (∀ p ∈ news, p.1 < D) → IntsAre ws (ns.take n) → Q (.ref D) { s with heap := h' })
    (hs : subscripted slice false (.ref l) (.ref s.heap.objs.size) = operate [.ref s.heap.objs.size, .ref l] (getItem (.ref l) (.ref s.heap.objs.size)) := by rfl) (ht : ∀ r, letTemporaryGo value (.ref l) r = pure () := by intro _; rfl) :
    wpAny (model prog w) A (subscriptTail value slice (.ref l) (.ref s.heap.objs.size)) Q E { s with heap := s.heap.push { cls := .type "slice", data := .fields #[.none, .int (n : Int) u, .none] } } := by
  refine kmk_slice F N hl .none (.int _ _) (fun D h' F' N' l1 => h D (vs.take n) h' F' ?_ l1 (ints_take n hI)) hs ht (by rw [List.size_toArray, PySem.sizeLine_eq]; omega)
  have e : slicePick vs.toArray none (some (n : Int)) none = (vs.take n).toArray := by
    have hb : sliceBounds none (some (n : Int)) none vs.toArray.size = (((0 : Nat) : Int), ((min n vs.toArray.size : Nat) : Int), 1) := by
      unfold sliceBounds
      simp only [Option.getD_none, show ((1 : Int) > 0) = True from by simp, if_true]
      rw [if_neg (by omega)]
      congr 2
      omega
    rw [kmk_pick_nat _ hb]
    simp only [List.size_toArray, Nat.sub_zero, List.drop_zero]
    rcases Nat.le_total n vs.length with q | q
    · rw [Nat.min_eq_left q]
    · rw [Nat.min_eq_right q, List.take_of_length_le q, List.take_of_length_le (Nat.le_refl _)]
  rw [← e]
  exact N'
end
theorem rep_yesP {P : Nat → Bool} {l : List Nat} {i c : Nat} {ys : List Value} {v : PySem.Str} {t : Tok} (h : l[i]? = some c) (hb : P c = true) (hS : StrsAre ys (List.replicate ((l.take i).countP P) v)) :
    StrsAre (ys ++ [.str v t]) (List.replicate ((l.take (i + 1)).countP P) v) := by
  have e : (l.take (i + 1)).countP P = (l.take i).countP P + 1 := by
    rw [List.take_add_one, h, List.countP_append]
    simp [hb]
  rw [e, List.replicate_succ']
  exact kct_snoc hS
theorem rep_noP {P : Nat → Bool} {l : List Nat} {i c : Nat} {ys : List Value} {v : PySem.Str} (h : l[i]? = some c) (hb : ¬ P c = true) (hS : StrsAre ys (List.replicate ((l.take i).countP P) v)) :
    StrsAre ys (List.replicate ((l.take (i + 1)).countP P) v) := by
  have e : (l.take (i + 1)).countP P = (l.take i).countP P := by
    rw [List.take_add_one, h, List.countP_append]
    simp [hb]
  rw [e]
  exact hS
theorem ints_at {ws : List Value} {R : List Nat} {n i : Nat} {v : Value} (hI : IntsAre ws ((R.map fun c : Nat => (c : Int)).take n)) (h : ws.toArray[i]? = some v) : ∃ (c : Nat) (t : Tok), (R.take n)[i]? = some c ∧ v = .int (c : Int) t := by
  obtain ⟨k, t, rfl, hk⟩ := IntsAre.at hI i v (by simpa using h)
  rw [← List.map_take, List.getElem?_map] at hk
  cases hc : (R.take n)[i]? with
  | none => rw [hc] at hk; cases hk
  | some c =>
    rw [hc] at hk
    have : (c : Int) = k := by simpa using hk
    exact ⟨c, t, rfl, by rw [this]⟩
theorem setS {m₀ m' : PySem.Str → Option Value} {x y : PySem.Str} {a : PySem.Str} (hx : ∃ t, m' x = some (.str a t)) (ho : ∀ z, z ≠ x → z ≠ y → m' z = m₀ z) : ∃ (t : Tok) (u : Option Value), m' = fun z => if z = x then some (.str a t) else if z = y then u else m₀ z := by
  obtain ⟨t, hx⟩ := hx
  refine ⟨t, m' y, ?_⟩
  funext z
  by_cases h : z = x
  · rw [if_pos h, h, hx]
  · by_cases h2 : z = y
    · rw [if_neg h, if_pos h2, h2]
    · rw [if_neg h, if_neg h2, ho z h h2]
theorem take_more {l : List Nat} {n c : Nat} (hn : n < l.length) (hc : l.getD n 0 = c) : l.take n ++ [c] = l.take (n + 1) := by
  rw [List.take_add_one, List.getElem?_eq_getElem hn]
  have : l[n] = c := by rw [← hc]; simp [List.getD, hn]
  rw [this]
  rfl
theorem fetch_done {R : List Nat} {size : Nat} {st : St} (h : st.place = R.length) : (st.fetch R size).buf = none := by
  show (split (st.data R size)).2 = none
  have hp : partOf R size st.place = [] := by
    unfold partOf
    rw [h, List.drop_length, List.take_nil]
  have hl : (st.data R size).length ≤ 1 := by
    unfold St.data
    rw [hp, List.append_nil]
    cases st.buf <;> simp
  unfold split
  rw [if_neg (fun q => by omega)]
end Mine
namespace Mine
open_top hd03 for PySem.Challenge.rw_te0074_03
example : True := by
  w_top off
  trivial
end Mine
namespace Mine
open PySem.Builtin PySem.Builtin.Str PySem.StrLaws PySem.Calls
section
local macro_rules | `(tactic| walk_at $s:str) => `(tactic| k_extra $s)
local macro_rules | `(tactic| k_room) => `(tactic| ktr_room)
local macro_rules | `(tactic| tb_start) => `(tactic| k_extra "tb")
local macro_rules | `(tactic| k_all) => `(tactic| k_extra "all")
local macro_rules | `(tactic| tb_rel) => `(tactic| k_extra "rel")
local macro_rules | `(tactic| k_ne) => `(tactic| k_extra "ne")
theorem of_empty : Str.ofString "" = S [] := by decide +kernel
theorem str_is {m : Str → Option Value} {k : Str} {v y : Str} {t : Tok} (h : m k = some (.str y t)) (e : y = v) : ∃ t, m k = some (.str v t) := ⟨t, e ▸ h⟩
theorem str_empty (k : Tok) : ∃ t, some (Value.str (Str.ofString "") k) = some (Value.str (S []) t) := ⟨k, by rw [of_empty]⟩
theorem led0_end {h₀ h' : Heap} {L : Addr} {m' : Str → Option Value} {news own : List (Addr × Obj)} {J : (Str → Option Value) → List (Addr × Obj) → Prop} {s₁ : Shared} {tk : Nat} (F : Fr h₀ L h' m') (N : News h₀ L h' (news ++ own)) (hj : J m' news) :
    InvEndN h₀ L J own (news.map (·.1)) s₁ { s₁ with heap := h', toks := tk } :=
  InvEndN.intro F N hj rfl (fun p hp => List.mem_append.mpr (.inl hp)) (fun p hp => List.mem_append.mpr (.inr hp))
theorem mix_set2 {m' m₀ : Str → Option Value} (x y s : Str) {a b : Str} (hx : ∃ t, m' x = some (.str a t)) (hy : ∃ t, m' y = some (.str b t)) (ho : ∀ z, z ≠ s → z ≠ x → z ≠ y → m' z = m₀ z) :
    ∃ (ty tx : Tok) (u : Option Value), m' = fun z => if z = s then u else if z = x then some (.str a tx) else if z = y then some (.str b ty) else m₀ z := by
  obtain ⟨tx, hx⟩ := hx
  obtain ⟨ty, hy⟩ := hy
  refine ⟨ty, tx, m' s, ?_⟩
  funext z
  by_cases h1 : z = s
  · rw [if_pos h1, h1]
  · by_cases h2 : z = x
    · rw [if_neg h1, if_pos h2, h2, hx]
    · by_cases h3 : z = y
      · rw [if_neg h1, if_neg h2, if_pos h3, h3, hy]
      · rw [if_neg h1, if_neg h2, if_neg h3, ho z h1 h2 h3]
/-- ways of an expression that meet -/
def JoinE (g : Heap) (L : Addr) (m : Str → Option Value) (news : List (Addr × Obj)) (s : Shared) (P : Value → Prop) (v : Value) (s' : Shared) : Prop :=
  ∃ h' tk', s' = { s with heap := h', toks := tk' } ∧ P v ∧ Fr g L h' m ∧ News g L h' news
theorem join_e {M : Model} {A : Around} {t : Sem Value} {E : Value → Shared → Prop} {s : Shared} {g : Heap} {L : Addr} {m : Str → Option Value} {news : List (Addr × Obj)} {Q : Value → Shared → Prop} (P : Value → Prop) (_F : Fr g L s.heap m) (_N : News g L s.heap news)
    (h1 : wpAny M A t (JoinE g L m news s P) E s)
    (h2 : ∀ (v : Value) (h' : Heap) (tk' : Nat), P v → Fr g L h' m → News g L h' news → Q v { s with heap := h', toks := tk' }) : wpAny M A t Q E s :=
  wpAny_mono h1 (fun v s' h => by obtain ⟨h', tk', rfl, hP, F, N⟩ := h; exact h2 v h' tk' hP F N) (fun _ _ h => h)
theorem join_e_end {g : Heap} {L : Addr} {m : Str → Option Value} {news : List (Addr × Obj)} {s : Shared} {P : Value → Prop} {v : Value} {h' : Heap} {tk' : Nat} (F : Fr g L h' m) (N : News g L h' news) (hP : P v) : JoinE g L m news s P v { s with heap := h', toks := tk' } :=
  ⟨h', tk', rfl, hP, F, N⟩

/-! ### is a code invalid: the leaves of its chain of tests -/
theorem inv_iff (c : Nat) : isInv c = true ↔ (1 ≤ c ∧ c ≤ 8) ∨ c = 11 ∨ (14 ≤ c ∧ c ≤ 31) ∨ (127 ≤ c ∧ c ≤ 159) ∨ (64976 ≤ c ∧ c ≤ 65007) ∨ (c % 65536 = 65534 ∨ c % 65536 = 65535) ∨ (55296 ≤ c ∧ c ≤ 57343) := by
  simp only [isInv, Bool.or_eq_true, Bool.and_eq_true, decide_eq_true_eq, beq_iff_eq, or_assoc]
theorem inv_t {c : Nat} (h : (1 ≤ c ∧ c ≤ 8) ∨ c = 11 ∨ (14 ≤ c ∧ c ≤ 31) ∨ (127 ≤ c ∧ c ≤ 159) ∨ (64976 ≤ c ∧ c ≤ 65007) ∨ (c % 65536 = 65534 ∨ c % 65536 = 65535) ∨ (55296 ≤ c ∧ c ≤ 57343)) {b : Bool} (hb : b = true) : b = isInv c := hb.trans ((inv_iff c).mpr h).symm
theorem inv_f {c : Nat} (h1 : c < 1 ∨ 8 < c) (h2 : c ≠ 11) (h3 : c < 14 ∨ 31 < c) (h4 : c < 127 ∨ 159 < c) (h5 : c < 64976 ∨ 65007 < c) (h6 : ¬ (c % 65536 = 65534 ∨ c % 65536 = 65535)) (h7 : c < 55296 ∨ 57343 < c) {b : Bool} (hb : b = false) : b = isInv c := by
  rw [hb]
  refine (Bool.eq_false_iff.mpr fun h => ?_).symm
  rcases (inv_iff c).mp h with h | h | h | h | h | h | h <;> first | omega | exact h6 h
theorem inv_mod {c : Nat} {b : Bool} (h : ([65534, 65535].any fun x : Int => x == (c : Int).fmod 65536) = b) : b = true ↔ (c % 65536 = 65534 ∨ c % 65536 = 65535) := by
  rw [← h, Int.fmod_eq_emod_of_nonneg _ (show (0 : Int) ≤ 65536 by decide)]
  simp only [List.any_cons, List.any_nil, Bool.or_false, Bool.or_eq_true, beq_iff_eq]
  omega
theorem cut_if {v : Option Value} {c : Str} {u : Option Value} {f : Str → Option Value} : (fun y => if y = c then v else (fun y => if y = c then u else f y) y) = fun y => if y = c then v else f y := by
  funext y
  by_cases h : y = c
  · rw [if_pos h, if_pos h]
  · rw [if_neg h, if_neg h]; exact if_neg h
theorem eq_yes {prog : Program} {w : World} {A : Around} {E : Value → Shared → Prop} {s : Shared} {l b : List Nat} {t u : Tok} {Q : Value → Shared → Prop} (e : l = b) (h : Q (.bool true) s) : wpAny (model prog w) A (compareOp .Eq (.str (S l) t) (.str (S b) u)) Q E s := eq_S (by rw [decide_eq_true e]; exact h)
theorem ne_rep_no {prog : Program} {w : World} {A : Around} {E : Value → Shared → Prop} {s : Shared} {D D' : Addr} {Q : Value → Shared → Prop} {v : PySem.Str} {xs ys : List Value} {n m : Nat} (ha : s.heap.IsList D xs.toArray) (hb : s.heap.IsList D' ys.toArray)
    (hi : StrsAre xs (List.replicate n v)) (hj : StrsAre ys (List.replicate m v)) (hv : PyData.strOk v = true) (hu : A.units + 64 < cLine) (e : n = m) (h : Q (.bool false) s) :
    wpAny (model prog w) A (compareOp .NotEq (.ref D) (.ref D')) Q E s := ne_rep ha hb hi hj hv hu (by rw [decide_eq_false (fun g => g e)]; exact h)
noncomputable abbrev loose : List Str := looseW hd03.view_39 [Str.ofString "HTMLUnicodeInputStream"]
def fillT : Prop := ∀ (P : Params), PySem.Challenge.rw_te0074_03.name = PySem.Challenge.rw_te0074_03.name ∧ hd03.heap_39 P = hd03.heap_39 P
def Spec (w : World) (mean : ExcName → Option Value) (mg mb : Str → Option Value) (f : Addr) (vs : List Value) (dd uu : Nat) (news : List (Addr × Obj)) (R : Value → List (Addr × Obj) → Prop) : Prop :=
  ∀ (dp un : Nat) (gd : Option (List Code)) (cn : Str) (cs : Scope) (a : Addr) (ccd : Value) (cl : List (Str × Addr)) (outer : List Env) (A₀ : Around) (base h₀ : Heap) (L : Addr) (m : Str → Option Value) (s : Shared) (Q E : Value → Shared → Prop),
    Below A₀ base outer h₀ → Fr h₀ L s.heap m → (hd03.heap_39 w.params).In h₀ → News h₀ L s.heap news → Top hd03.view_39 loose mean mg mb h₀ → cs.kind = .function →
    dp + dd < recursionLimit → un + uu < cLine →
    (∀ r news' h' tk', R r news' → s.toks ≤ tk' → Fr h₀ L h' m → News h₀ L h' news' → Q r { s with heap := h', toks := tk' }) →
      codeAny (model PySem.Challenge.pw_te0074_03 w) (ktrTop dp un gd cn cs L a ccd cl outer) (.call (.ref f) ⟨vs, []⟩) (fun r s' => match r with | .ok (.ret v) => Q v s' | .ok _ => False | .error e => E e s') s

section
variable {w : World} {mean : ExcName → Option Value} {mg mb : Str → Option Value}
/-- a walk that keeps no count of the tokens gives a contract all the same -/
theorem Spec.of {f : Addr} {vs : List Value} {dd uu : Nat} {news : List (Addr × Obj)} {R : Value → List (Addr × Obj) → Prop}
    (h : ∀ (dp un : Nat) (gd : Option (List Code)) (cn : Str) (cs : Scope) (a : Addr) (ccd : Value) (cl : List (Str × Addr)) (outer : List Env) (A₀ : Around) (base h₀ : Heap) (L : Addr) (m : Str → Option Value) (s : Shared) (Q E : Value → Shared → Prop),
      Below A₀ base outer h₀ → Fr h₀ L s.heap m → (hd03.heap_39 w.params).In h₀ → News h₀ L s.heap news → Top hd03.view_39 loose mean mg mb h₀ → cs.kind = .function →
      dp + dd < recursionLimit → un + uu < cLine →
      (∀ r news' h' tk', R r news' → Fr h₀ L h' m → News h₀ L h' news' → Q r { s with heap := h', toks := tk' }) →
        codeAny (model PySem.Challenge.pw_te0074_03 w) (ktrTop dp un gd cn cs L a ccd cl outer) (.call (.ref f) ⟨vs, []⟩) (fun r s' => match r with | .ok (.ret v) => Q v s' | .ok _ => False | .error e => E e s') s) : Spec w mean mg mb f vs dd uu news R := by
  intro dp un gd cn cs a ccd cl outer A₀ base h₀ L m s Q E B F X N T hk hd hu hret
  refine codeAny_with_toks (Nat.le_refl _) (codeAny_mono (h dp un gd cn cs a ccd cl outer A₀ base h₀ L m s (fun v s' => s.toks ≤ s'.toks → Q v s') (fun e s' => s.toks ≤ s'.toks → E e s') B F X N T hk hd hu fun r news' h' tk' hR F' N' hle => hret r news' h' tk' hR hle F' N') fun r s' hr hle => ?_)
  cases r with
  | error e => exact hr hle
  | ok fl => cases fl <;> first | exact hr hle | exact hr

theorem Spec.useC {f : Addr} {vs : List Value} {dd uu : Nat} {news : List (Addr × Obj)} {R : Value → List (Addr × Obj) → Prop}
    {dp un : Nat} {gd : Option (List Code)} {cn : Str} {cs : Scope} {a : Addr} {ccd : Value} {cl : List (Str × Addr)} {outer : List Env} {A₀ : Around} {base h₀ : Heap} {L : Addr} {m : Str → Option Value} {s : Shared} {Q E : Value → Shared → Prop}
    (H : Spec w mean mg mb f vs dd uu news R) (B : Below A₀ base outer h₀) (F : Fr h₀ L s.heap m) (X : (hd03.heap_39 w.params).In h₀) (N : News h₀ L s.heap news) (T : Top hd03.view_39 loose mean mg mb h₀) (hk : cs.kind = .function)
    (hd : dp + dd < recursionLimit) (hu : un + uu < cLine)
    (k : ∀ r news' h' tk', R r news' → s.toks ≤ tk' → Fr h₀ L h' m → News h₀ L h' news' → Q r { s with heap := h', toks := tk' }) :
    codeAny (model PySem.Challenge.pw_te0074_03 w) (ktrTop dp un gd cn cs L a ccd cl outer) (.call (.ref f) ⟨vs, []⟩) (fun r s' => match r with | .ok (.ret v) => Q v s' | .ok _ => False | .error e => E e s') s :=
  H dp un gd cn cs a ccd cl outer A₀ base h₀ L m s Q E B F X N T hk hd hu k
theorem Spec.use {f : Addr} {vs : List Value} {dd uu : Nat} {news : List (Addr × Obj)} {R : Value → List (Addr × Obj) → Prop}
    {dp un : Nat} {gd : Option (List Code)} {cn : Str} {cs : Scope} {a : Addr} {ccd : Value} {cl : List (Str × Addr)} {outer : List Env} {A₀ : Around} {base h₀ : Heap} {L : Addr} {m : Str → Option Value} {s : Shared} {Q E : Value → Shared → Prop}
    (H : Spec w mean mg mb f vs dd uu news R) (B : Below A₀ base outer h₀) (F : Fr h₀ L s.heap m) (X : (hd03.heap_39 w.params).In h₀) (N : News h₀ L s.heap news) (T : Top hd03.view_39 loose mean mg mb h₀) (hk : cs.kind = .function)
    (hd : dp + dd < recursionLimit) (hu : un + uu < cLine)
    (k : ∀ r news' h' tk', R r news' → s.toks ≤ tk' → Fr h₀ L h' m → News h₀ L h' news' → Q r { s with heap := h', toks := tk' }) :
    wpAny (model PySem.Challenge.pw_te0074_03 w) (ktrTop dp un gd cn cs L a ccd cl outer) (call (.ref f) vs) Q E s :=
  wpAny_call (Spec.useC H B F X N T hk hd hu k)
theorem Spec.useM {f q : Addr} {self : Value} {vs : List Value} {dd uu : Nat} {news news0 : List (Addr × Obj)} {R : Value → List (Addr × Obj) → Prop}
    {dp un : Nat} {gd : Option (List Code)} {cn : Str} {cs : Scope} {a : Addr} {ccd : Value} {cl : List (Str × Addr)} {outer : List Env} {A₀ : Around} {base h₀ : Heap} {L : Addr} {m : Str → Option Value} {s : Shared} {Q E : Value → Shared → Prop}
    (N0 : News h₀ L s.heap news0) (hq : (q, methodObj (.ref f) self) ∈ news0)
    (H : Spec w mean mg mb f (self :: vs) dd uu news R) (B : Below A₀ base outer h₀) (F : Fr h₀ L s.heap m) (X : (hd03.heap_39 w.params).In h₀) (N : News h₀ L s.heap news) (T : Top hd03.view_39 loose mean mg mb h₀) (hk : cs.kind = .function)
    (hd : dp + dd < recursionLimit) (hu : un + uu < cLine)
    (k : ∀ r news' h' tk', R r news' → s.toks ≤ tk' → Fr h₀ L h' m → News h₀ L h' news' → Q r { s with heap := h', toks := tk' }) :
    wpAny (model PySem.Challenge.pw_te0074_03 w) (ktrTop dp un gd cn cs L a ccd cl outer) (call (.ref q) vs) Q E s := by
  refine call_meth N0 hq (codeAny_mono (Spec.useC (E := E) H B F X N T hk hd hu k) fun r s' h => ?_)
  cases r with
  | error e => exact h
  | ok fl => cases fl <;> exact h
end

theorem News.tl {h₀ h : Heap} {L : Addr} {p : Addr × Obj} {l : List (Addr × Obj)} (N : News h₀ L h (p :: l)) : News h₀ L h l := fun q hq => N q (.tail _ hq)

abbrev tup (vs : List Value) : Obj := { cls := .type "tuple", data := .seq vs.toArray }
abbrev sInv : Str := Str.ofString "invalid-codepoint"
inductive BufIs : Value → Option Nat → Prop
  | none : BufIs .none none
  | some {b : Nat} {t : Tok} : BufIs (.str (S [b]) t) (some b)

/-- the stream at x, over the text R; rest: what else stands -/
inductive LedR (w : World) (R : List Nat) (rest : List (Addr × Obj)) : List Nat → Nat → List Nat → Int → Int → Nat → Int → Int → Option Nat → Int → List (Addr × Obj) → Prop
  | mk {d x q nl dT xT e : Nat} {ck : List Nat} {sz of : Int} {er : Nat} {pl pc : Int} {bf : Option Nat} {pla : Int} {ev : List Value} {ep : Nat} {t0 t1 t2 t3 t4 t5 t6 t7 t8 t9 tB tC u0 u1 u2 u3 u4 u5 u6 u7 : Tok} {bv : Value}
      (hA : d < x ∧ x < q ∧ q < nl ∧ nl < dT ∧ dT < xT ∧ xT < e) (hO : OwnOff rest [e, xT, dT, nl, q, x, d]) (h1 : StrsAre ev (List.replicate er sInv)) (h9 : BufIs bv bf) :
      LedR w R rest [e, xT, dT, nl, q, x, d] x ck sz of er pl pc bf pla ((e, W.listOf ev.toArray ep) :: (xT, instObj 45 dT) :: (dT, dictOf [
          { hash := PyData.keyHash w.params (Str.ofString "text"), key := .str (Str.ofString "text") tB, val := .str (S R) u0 },
          { hash := PyData.keyHash w.params (Str.ofString "place"), key := .str (Str.ofString "place") tC, val := .int pla u1 }] 2) ::
        (nl, W.listOf #[.int 0 u2] 0) :: (q, methodObj (.ref 120) (.ref x)) :: (x, instObj 138 d) :: (d, dictOf [
          { hash := PyData.keyHash w.params (Str.ofString "reportCharacterErrors"), key := .str (Str.ofString "reportCharacterErrors") t0, val := .ref q },
          { hash := PyData.keyHash w.params (Str.ofString "newLines"), key := .str (Str.ofString "newLines") t1, val := .ref nl },
          { hash := PyData.keyHash w.params (Str.ofString "dataStream"), key := .str (Str.ofString "dataStream") t2, val := .ref xT },
          { hash := PyData.keyHash w.params (Str.ofString "chunk"), key := .str (Str.ofString "chunk") t3, val := .str (S ck) u3 },
          { hash := PyData.keyHash w.params (Str.ofString "chunkSize"), key := .str (Str.ofString "chunkSize") t4, val := .int sz u4 },
          { hash := PyData.keyHash w.params (Str.ofString "chunkOffset"), key := .str (Str.ofString "chunkOffset") t5, val := .int of u5 },
          { hash := PyData.keyHash w.params (Str.ofString "errors"), key := .str (Str.ofString "errors") t6, val := .ref e },
          { hash := PyData.keyHash w.params (Str.ofString "prevNumLines"), key := .str (Str.ofString "prevNumLines") t7, val := .int pl u6 },
          { hash := PyData.keyHash w.params (Str.ofString "prevNumCols"), key := .str (Str.ofString "prevNumCols") t8, val := .int pc u7 },
          { hash := PyData.keyHash w.params (Str.ofString "_bufferedCharacter"), key := .str (Str.ofString "_bufferedCharacter") t9, val := bv }] 10) :: rest)
/-- the same, its state in one -/
abbrev LedIs (w : World) (R : List Nat) (rest : List (Addr × Obj)) (ad : List Nat) (x : Nat) (st : St) (news : List (Addr × Obj)) : Prop :=
  LedR w R rest ad x st.chunk (st.chunk.length : Int) (st.off : Int) st.errs (st.pl : Int) (st.pc : Int) st.buf (st.place : Int) news

/-- a place: a tuple of two ints, made anew -/
def PosIs (v : Value) (n news : List (Addr × Obj)) (p : Nat × Nat) : Prop :=
  ∃ (D : Nat) (a b : Int) (t1 t2 : Tok), v = .ref D ∧ (∀ q ∈ news, q.1 < D) ∧ n = (D, tup [.int a t1, .int b t2]) :: news ∧ a = p.1 ∧ b = p.2

section
variable {w : World} {R : List Nat} {rest : List (Addr × Obj)} {ad : List Nat} {x : Nat} {ck : List Nat} {sz of : Int} {er : Nat} {pl pc : Int} {bf : Option Nat} {pla : Int} {news own : List (Addr × Obj)}
theorem LedR.addr (h : LedR w R rest ad x ck sz of er pl pc bf pla news) : news.map (·.1) = ad ++ rest.map (·.1) := by
  cases h; rfl
theorem LedR.part (h : LedR w R (rest ++ own) ad x ck sz of er pl pc bf pla news) : ∃ nx, LedR w R rest ad x ck sz of er pl pc bf pla nx ∧ news = nx ++ own := by
  obtain ⟨hA, hO, h1, h9⟩ := h
  exact ⟨_, .mk hA (fun p hp => hO p (List.mem_append.mpr (.inl hp))) h1 h9, rfl⟩
theorem LedR.app (h : LedR w R rest ad x ck sz of er pl pc bf pla news) (ho : OwnOff own ad) : LedR w R (rest ++ own) ad x ck sz of er pl pc bf pla (news ++ own) := by
  obtain ⟨hA, hO, h1, h9⟩ := h
  exact .mk hA (fun p hp => (List.mem_append.mp hp).elim (hO p) (ho p)) h1 h9
theorem LedR.mem_rest {p : Addr × Obj} (h : LedR w R rest ad x ck sz of er pl pc bf pla news) (hp : p ∈ rest) : p ∈ news := by
  obtain ⟨n7, _, rfl⟩ := LedR.part (rest := []) h
  exact List.mem_append.mpr (.inr hp)
theorem led_end {h₀ h' : Heap} {L : Addr} {m' : Str → Option Value} {J : (Str → Option Value) → List (Addr × Obj) → Prop} {adr : List Addr} {s₁ : Shared} {tk : Nat} (F : Fr h₀ L h' m') (N : News h₀ L h' news) (hL : LedR w R (rest ++ own) ad x ck sz of er pl pc bf pla news)
    (ha : ad ++ rest.map (·.1) = adr) (hj : ∀ nx, LedR w R rest ad x ck sz of er pl pc bf pla nx → J m' nx) : InvEndN h₀ L J own adr s₁ { s₁ with heap := h', toks := tk } := by
  obtain ⟨nx, h1, rfl⟩ := hL.part
  exact InvEndN.intro F N (hj nx h1) (h1.addr.trans ha) (fun p hp => List.mem_append.mpr (.inl hp)) (fun p hp => List.mem_append.mpr (.inr hp))
end
set_option maxRecDepth 100000 in
example : fillT := by
  unfold fillT
  k_fill
  exact fun _ => ⟨rfl, rfl⟩
theorem apart7 {d x q nl dT xT e : Nat} {rest : List (Addr × Obj)} (hA : d < x ∧ x < q ∧ q < nl ∧ nl < dT ∧ dT < xT ∧ xT < e) (hO : OwnOff rest [e, xT, dT, nl, q, x, d]) :
    e ≠ d ∧ xT ≠ d ∧ dT ≠ d ∧ nl ≠ d ∧ q ≠ d ∧ x ≠ d ∧ (∀ p ∈ rest, p.1 ≠ d) := by
  refine ⟨by omega, by omega, by omega, by omega, by omega, by omega, fun p hp => hO p hp d (by simp)⟩
section
variable {w : World} {mean : ExcName → Option Value} {mg mb : Str → Option Value} {R : List Nat} {rest : List (Addr × Obj)} {ad : List Nat} {x : Nat} {ck : List Nat} {sz of : Int} {er : Nat} {pl pc : Int} {bf : Option Nat} {pla : Int} {news : List (Addr × Obj)}
  {A : Around} {E : Value → Shared → Prop} {s : Shared} {h₀ : Heap} {L : Addr} {m : Str → Option Value} {xT : Nat}
theorem g_chunk {Q : Value → Shared → Prop} {ex : Bool} (hL : LedR w R rest ad x ck sz of er pl pc bf pla news) (F : Fr h₀ L s.heap m) (X : (hd03.heap_39 w.params).In h₀) (N : News h₀ L s.heap news) (h : ∀ u, Q (.str (S ck) u) { s with toks := s.toks + 1 }) :
    wpAny (model PySem.Challenge.pw_te0074_03 w) A (getAttr (.ref x) (Str.ofString "chunk") ex) Q E s := by
  obtain ⟨hA, hO, h1, h9⟩ := hL
  walk1
  exact h _
theorem g_size {Q : Value → Shared → Prop} {ex : Bool} (hL : LedR w R rest ad x ck sz of er pl pc bf pla news) (F : Fr h₀ L s.heap m) (X : (hd03.heap_39 w.params).In h₀) (N : News h₀ L s.heap news) (h : ∀ u, Q (.int sz u) { s with toks := s.toks + 1 }) :
    wpAny (model PySem.Challenge.pw_te0074_03 w) A (getAttr (.ref x) (Str.ofString "chunkSize") ex) Q E s := by
  obtain ⟨hA, hO, h1, h9⟩ := hL
  walk1
  exact h _
theorem g_off {Q : Value → Shared → Prop} {ex : Bool} (hL : LedR w R rest ad x ck sz of er pl pc bf pla news) (F : Fr h₀ L s.heap m) (X : (hd03.heap_39 w.params).In h₀) (N : News h₀ L s.heap news) (h : ∀ u, Q (.int of u) { s with toks := s.toks + 1 }) :
    wpAny (model PySem.Challenge.pw_te0074_03 w) A (getAttr (.ref x) (Str.ofString "chunkOffset") ex) Q E s := by
  obtain ⟨hA, hO, h1, h9⟩ := hL
  walk1
  exact h _
theorem g_pl {Q : Value → Shared → Prop} {ex : Bool} (hL : LedR w R rest ad x ck sz of er pl pc bf pla news) (F : Fr h₀ L s.heap m) (X : (hd03.heap_39 w.params).In h₀) (N : News h₀ L s.heap news) (h : ∀ u, Q (.int pl u) { s with toks := s.toks + 1 }) :
    wpAny (model PySem.Challenge.pw_te0074_03 w) A (getAttr (.ref x) (Str.ofString "prevNumLines") ex) Q E s := by
  obtain ⟨hA, hO, h1, h9⟩ := hL
  walk1
  exact h _
theorem g_pc {Q : Value → Shared → Prop} {ex : Bool} (hL : LedR w R rest ad x ck sz of er pl pc bf pla news) (F : Fr h₀ L s.heap m) (X : (hd03.heap_39 w.params).In h₀) (N : News h₀ L s.heap news) (h : ∀ u, Q (.int pc u) { s with toks := s.toks + 1 }) :
    wpAny (model PySem.Challenge.pw_te0074_03 w) A (getAttr (.ref x) (Str.ofString "prevNumCols") ex) Q E s := by
  obtain ⟨hA, hO, h1, h9⟩ := hL
  walk1
  exact h _
theorem g_errors {Q : Value → Shared → Prop} {ex : Bool} (hL : LedR w R rest ad x ck sz of er pl pc bf pla news) (F : Fr h₀ L s.heap m) (X : (hd03.heap_39 w.params).In h₀) (N : News h₀ L s.heap news) (h : ∀ e, ad[0]? = some e → Q (.ref e) { s with toks := s.toks + 1 }) :
    wpAny (model PySem.Challenge.pw_te0074_03 w) A (getAttr (.ref x) (Str.ofString "errors") ex) Q E s := by
  obtain ⟨hA, hO, h1, h9⟩ := hL
  walk1
  exact h _ rfl
theorem g_stream {Q : Value → Shared → Prop} {ex : Bool} (hL : LedR w R rest ad x ck sz of er pl pc bf pla news) (F : Fr h₀ L s.heap m) (X : (hd03.heap_39 w.params).In h₀) (N : News h₀ L s.heap news) (h : ∀ xT, ad[1]? = some xT → Q (.ref xT) { s with toks := s.toks + 1 }) :
    wpAny (model PySem.Challenge.pw_te0074_03 w) A (getAttr (.ref x) (Str.ofString "dataStream") ex) Q E s := by
  obtain ⟨hA, hO, h1, h9⟩ := hL
  walk1
  exact h _ rfl
theorem g_buf {Q : Value → Shared → Prop} {ex : Bool} (hL : LedR w R rest ad x ck sz of er pl pc bf pla news) (F : Fr h₀ L s.heap m) (X : (hd03.heap_39 w.params).In h₀) (N : News h₀ L s.heap news) (h : ∀ v, BufIs v bf → Q v { s with toks := s.toks + 1 }) :
    wpAny (model PySem.Challenge.pw_te0074_03 w) A (getAttr (.ref x) (Str.ofString "_bufferedCharacter") ex) Q E s := by
  obtain ⟨hA, hO, h1, h9⟩ := hL
  cases h9 <;> walk1
  · exact h _ .none
  · exact h _ .some
theorem g_rep {Q : Value → Shared → Prop} {ex : Bool} (hL : LedR w R rest ad x ck sz of er pl pc bf pla news) (F : Fr h₀ L s.heap m) (X : (hd03.heap_39 w.params).In h₀) (N : News h₀ L s.heap news) (h : ∀ q, (q, methodObj (.ref 120) (.ref x)) ∈ news → Q (.ref q) { s with toks := s.toks + 1 }) :
    wpAny (model PySem.Challenge.pw_te0074_03 w) A (getAttr (.ref x) (Str.ofString "reportCharacterErrors") ex) Q E s := by
  obtain ⟨hA, hO, h1, h9⟩ := hL
  walk1
  exact h _ (.tail _ (.tail _ (.tail _ (.tail _ (.head _)))))
theorem g_dflt {Q : Value → Shared → Prop} {ex : Bool} (hL : LedR w R rest ad x ck sz of er pl pc bf pla news) (F : Fr h₀ L s.heap m) (X : (hd03.heap_39 w.params).In h₀) (N : News h₀ L s.heap news) (h : ∀ u, Q (.int 10240 u) { s with toks := s.toks + 1 }) :
    wpAny (model PySem.Challenge.pw_te0074_03 w) A (getAttr (.ref x) (Str.ofString "_defaultChunkSize") ex) Q E s := by
  obtain ⟨hA, hO, h1, h9⟩ := hL
  walk1
  exact h _
theorem g_text {Q : Value → Shared → Prop} {ex : Bool} (hL : LedR w R rest ad x ck sz of er pl pc bf pla news) (hT : ad[1]? = some xT) (F : Fr h₀ L s.heap m) (X : (hd03.heap_39 w.params).In h₀) (N : News h₀ L s.heap news) (h : ∀ u, Q (.str (S R) u) { s with toks := s.toks + 1 }) :
    wpAny (model PySem.Challenge.pw_te0074_03 w) A (getAttr (.ref xT) (Str.ofString "text") ex) Q E s := by
  obtain ⟨hA, hO, h1, h9⟩ := hL
  obtain rfl := Option.some.inj hT
  walk1
  exact h _
theorem g_place {Q : Value → Shared → Prop} {ex : Bool} (hL : LedR w R rest ad x ck sz of er pl pc bf pla news) (hT : ad[1]? = some xT) (F : Fr h₀ L s.heap m) (X : (hd03.heap_39 w.params).In h₀) (N : News h₀ L s.heap news) (h : ∀ u, Q (.int pla u) { s with toks := s.toks + 1 }) :
    wpAny (model PySem.Challenge.pw_te0074_03 w) A (getAttr (.ref xT) (Str.ofString "place") ex) Q E s := by
  obtain ⟨hA, hO, h1, h9⟩ := hL
  obtain rfl := Option.some.inj hT
  walk1
  exact h _
theorem s_chunk {Q : Unit → Shared → Prop} {c : List Nat} {u : Tok} (hL : LedR w R rest ad x ck sz of er pl pc bf pla news) (F : Fr h₀ L s.heap m) (X : (hd03.heap_39 w.params).In h₀) (N : News h₀ L s.heap news) (h : ∀ h' n', Fr h₀ L h' m → News h₀ L h' n' → LedR w R rest ad x c sz of er pl pc bf pla n' → Q () { s with heap := h', toks := s.toks + 2 }) :
    wpAny (model PySem.Challenge.pw_te0074_03 w) A (setAttr (.ref x) (Str.ofString "chunk") (.str (S c) u)) Q E s := by
  obtain ⟨hA, hO, h1, h9⟩ := hL
  obtain ⟨n1, n2, n3, n4, n5, n6, r1⟩ := apart7 hA hO
  walk1
  exact h _ _ (by assumption) (by assumption) (.mk hA hO h1 h9)
theorem s_size {Q : Unit → Shared → Prop} {c : Int} {u : Tok} (hL : LedR w R rest ad x ck sz of er pl pc bf pla news) (F : Fr h₀ L s.heap m) (X : (hd03.heap_39 w.params).In h₀) (N : News h₀ L s.heap news) (h : ∀ h' n', Fr h₀ L h' m → News h₀ L h' n' → LedR w R rest ad x ck c of er pl pc bf pla n' → Q () { s with heap := h', toks := s.toks + 2 }) :
    wpAny (model PySem.Challenge.pw_te0074_03 w) A (setAttr (.ref x) (Str.ofString "chunkSize") (.int c u)) Q E s := by
  obtain ⟨hA, hO, h1, h9⟩ := hL
  obtain ⟨n1, n2, n3, n4, n5, n6, r1⟩ := apart7 hA hO
  walk1
  exact h _ _ (by assumption) (by assumption) (.mk hA hO h1 h9)
theorem s_off {Q : Unit → Shared → Prop} {c : Int} {u : Tok} (hL : LedR w R rest ad x ck sz of er pl pc bf pla news) (F : Fr h₀ L s.heap m) (X : (hd03.heap_39 w.params).In h₀) (N : News h₀ L s.heap news) (h : ∀ h' n', Fr h₀ L h' m → News h₀ L h' n' → LedR w R rest ad x ck sz c er pl pc bf pla n' → Q () { s with heap := h', toks := s.toks + 2 }) :
    wpAny (model PySem.Challenge.pw_te0074_03 w) A (setAttr (.ref x) (Str.ofString "chunkOffset") (.int c u)) Q E s := by
  obtain ⟨hA, hO, h1, h9⟩ := hL
  obtain ⟨n1, n2, n3, n4, n5, n6, r1⟩ := apart7 hA hO
  walk1
  exact h _ _ (by assumption) (by assumption) (.mk hA hO h1 h9)
theorem s_pl {Q : Unit → Shared → Prop} {c : Int} {u : Tok} (hL : LedR w R rest ad x ck sz of er pl pc bf pla news) (F : Fr h₀ L s.heap m) (X : (hd03.heap_39 w.params).In h₀) (N : News h₀ L s.heap news) (h : ∀ h' n', Fr h₀ L h' m → News h₀ L h' n' → LedR w R rest ad x ck sz of er c pc bf pla n' → Q () { s with heap := h', toks := s.toks + 2 }) :
    wpAny (model PySem.Challenge.pw_te0074_03 w) A (setAttr (.ref x) (Str.ofString "prevNumLines") (.int c u)) Q E s := by
  obtain ⟨hA, hO, h1, h9⟩ := hL
  obtain ⟨n1, n2, n3, n4, n5, n6, r1⟩ := apart7 hA hO
  walk1
  exact h _ _ (by assumption) (by assumption) (.mk hA hO h1 h9)
theorem s_pc {Q : Unit → Shared → Prop} {c : Int} {u : Tok} (hL : LedR w R rest ad x ck sz of er pl pc bf pla news) (F : Fr h₀ L s.heap m) (X : (hd03.heap_39 w.params).In h₀) (N : News h₀ L s.heap news) (h : ∀ h' n', Fr h₀ L h' m → News h₀ L h' n' → LedR w R rest ad x ck sz of er pl c bf pla n' → Q () { s with heap := h', toks := s.toks + 2 }) :
    wpAny (model PySem.Challenge.pw_te0074_03 w) A (setAttr (.ref x) (Str.ofString "prevNumCols") (.int c u)) Q E s := by
  obtain ⟨hA, hO, h1, h9⟩ := hL
  obtain ⟨n1, n2, n3, n4, n5, n6, r1⟩ := apart7 hA hO
  walk1
  exact h _ _ (by assumption) (by assumption) (.mk hA hO h1 h9)
theorem s_chunk0 {Q : Unit → Shared → Prop} {u : Tok} (hL : LedR w R rest ad x ck sz of er pl pc bf pla news) (F : Fr h₀ L s.heap m) (X : (hd03.heap_39 w.params).In h₀) (N : News h₀ L s.heap news) (h : ∀ h' n', Fr h₀ L h' m → News h₀ L h' n' → LedR w R rest ad x [] sz of er pl pc bf pla n' → Q () { s with heap := h', toks := s.toks + 2 }) :
    wpAny (model PySem.Challenge.pw_te0074_03 w) A (setAttr (.ref x) (Str.ofString "chunk") (.str (Str.ofString "") u)) Q E s := by
  rw [of_empty]
  exact s_chunk hL F X N h
theorem s_buf {Q : Unit → Shared → Prop} {v : Value} {b : Option Nat} (hv : BufIs v b) (hL : LedR w R rest ad x ck sz of er pl pc bf pla news) (F : Fr h₀ L s.heap m) (X : (hd03.heap_39 w.params).In h₀) (N : News h₀ L s.heap news) (h : ∀ h' n', Fr h₀ L h' m → News h₀ L h' n' → LedR w R rest ad x ck sz of er pl pc b pla n' → Q () { s with heap := h', toks := s.toks + 2 }) :
    wpAny (model PySem.Challenge.pw_te0074_03 w) A (setAttr (.ref x) (Str.ofString "_bufferedCharacter") v) Q E s := by
  obtain ⟨hA, hO, h1, h9⟩ := hL
  obtain ⟨n1, n2, n3, n4, n5, n6, r1⟩ := apart7 hA hO
  walk1
  exact h _ _ (by assumption) (by assumption) (.mk hA hO h1 hv)
theorem s_place {Q : Unit → Shared → Prop} {c : Int} {u : Tok} (hL : LedR w R rest ad x ck sz of er pl pc bf pla news) (hT : ad[1]? = some xT) (F : Fr h₀ L s.heap m) (X : (hd03.heap_39 w.params).In h₀) (N : News h₀ L s.heap news) (h : ∀ h' n', Fr h₀ L h' m → News h₀ L h' n' → LedR w R rest ad x ck sz of er pl pc bf c n' → Q () { s with heap := h', toks := s.toks + 2 }) :
    wpAny (model PySem.Challenge.pw_te0074_03 w) A (setAttr (.ref xT) (Str.ofString "place") (.int c u)) Q E s := by
  obtain ⟨hA, hO, h1, h9⟩ := hL
  obtain rfl := Option.some.inj hT
  walk1
  exact h _ _ (by assumption) (by assumption) (.mk hA hO h1 h9)
theorem m_pos_ {Q : Value × List Value → Shared → Prop} {sem : Sem Bool} (hL : LedR w R rest ad x ck sz of er pl pc bf pla news) (F : Fr h₀ L s.heap m) (X : (hd03.heap_39 w.params).In h₀) (N : News h₀ L s.heap news) (h : Q (.ref 91, [.ref x]) s) :
    wpAny (model PySem.Challenge.pw_te0074_03 w) A (getMethod (.ref x) (Str.ofString "_position") sem) Q E s := by
  obtain ⟨hA, hO, h1, h9⟩ := hL
  walk1
  exact h
theorem m_char {Q : Value × List Value → Shared → Prop} {sem : Sem Bool} (hL : LedR w R rest ad x ck sz of er pl pc bf pla news) (F : Fr h₀ L s.heap m) (X : (hd03.heap_39 w.params).In h₀) (N : News h₀ L s.heap news) (h : Q (.ref 105, [.ref x]) s) :
    wpAny (model PySem.Challenge.pw_te0074_03 w) A (getMethod (.ref x) (Str.ofString "char") sem) Q E s := by
  obtain ⟨hA, hO, h1, h9⟩ := hL
  walk1
  exact h
theorem m_chunk {Q : Value × List Value → Shared → Prop} {sem : Sem Bool} (hL : LedR w R rest ad x ck sz of er pl pc bf pla news) (F : Fr h₀ L s.heap m) (X : (hd03.heap_39 w.params).In h₀) (N : News h₀ L s.heap news) (h : Q (.ref 113, [.ref x]) s) :
    wpAny (model PySem.Challenge.pw_te0074_03 w) A (getMethod (.ref x) (Str.ofString "readChunk") sem) Q E s := by
  obtain ⟨hA, hO, h1, h9⟩ := hL
  walk1
  exact h
theorem m_read {Q : Value × List Value → Shared → Prop} {sem : Sem Bool} (hL : LedR w R rest ad x ck sz of er pl pc bf pla news) (hT : ad[1]? = some xT) (F : Fr h₀ L s.heap m) (X : (hd03.heap_39 w.params).In h₀) (N : News h₀ L s.heap news) (h : Q (.ref 42, [.ref xT]) s) :
    wpAny (model PySem.Challenge.pw_te0074_03 w) A (getMethod (.ref xT) (Str.ofString "read") sem) Q E s := by
  obtain ⟨hA, hO, h1, h9⟩ := hL
  obtain rfl := Option.some.inj hT
  walk1
  exact h
theorem m_rep {Q : Value × List Value → Shared → Prop} {sem : Sem Bool} (hL : LedR w R rest ad x ck sz of er pl pc bf pla news) (F : Fr h₀ L s.heap m) (X : (hd03.heap_39 w.params).In h₀) (N : News h₀ L s.heap news) (h : ∀ q, (q, methodObj (.ref 120) (.ref x)) ∈ news → Q (.ref q, []) { s with toks := s.toks + 1 }) :
    wpAny (model PySem.Challenge.pw_te0074_03 w) A (getMethod (.ref x) (Str.ofString "reportCharacterErrors") sem) Q E s := by
  obtain ⟨hA, hO, h1, h9⟩ := hL
  walk1
  walk1
  exact h _ (.tail _ (.tail _ (.tail _ (.tail _ (.head _)))))
theorem e_list (hL : LedR w R rest ad x ck sz of er pl pc bf pla news) {e : Nat} (hE : ad[0]? = some e) : ∃ (ev : List Value) (ep : Nat), (e, W.listOf ev.toArray ep) ∈ news ∧ StrsAre ev (List.replicate er sInv) := by
  obtain ⟨hA, hO, h1, h9⟩ := hL
  obtain rfl := Option.some.inj hE
  exact ⟨_, _, .head _, h1⟩
theorem m_append {Q : Value × List Value → Shared → Prop} {sem : Sem Bool} (hL : LedR w R rest ad x ck sz of er pl pc bf pla news) {e : Nat} (hE : ad[0]? = some e) (F : Fr h₀ L s.heap m) (X : (hd03.heap_39 w.params).In h₀) (N : News h₀ L s.heap news) (h : Q (.builtin "list.append", [.ref e]) s) :
    wpAny (model PySem.Challenge.pw_te0074_03 w) A (getMethod (.ref e) (Str.ofString "append") sem) Q E s := by
  obtain ⟨hA, hO, h1, h9⟩ := hL
  obtain rfl := Option.some.inj hE
  walk1
  exact h
theorem app_err {Q : Value → Shared → Prop} {u : Tok} (hL : LedR w R rest ad x ck sz of er pl pc bf pla news) {e : Nat} (hE : ad[0]? = some e) (F : Fr h₀ L s.heap m) (X : (hd03.heap_39 w.params).In h₀) (N : News h₀ L s.heap news) (hs : er ≤ 1000000) (h : ∀ h' n', Fr h₀ L h' m → News h₀ L h' n' → LedR w R rest ad x ck sz of (er + 1) pl pc bf pla n' → Q .none { s with heap := h' }) :
    wpAny (model PySem.Challenge.pw_te0074_03 w) A (call (.builtin "list.append") [.ref e, .str sInv u]) Q E s := by
  obtain ⟨hA, hO, h1, h9⟩ := hL
  obtain rfl := Option.some.inj hE
  have hl := StrsAre.length h1
  rw [List.length_replicate] at hl
  refine append_K F N (.head (fun p hp => ?_)) (fun h' F' N' => ?_) ?_
  · simp only [List.mem_cons] at hp
    rcases hp with h | h | h | h | h | h | h
    all_goals first
      | (subst h; show @Ne Nat _ _; dsimp only; omega)
      | exact hO p h _ (.head _)
  · rw [List.push_toArray] at N'
    refine h _ _ F' N' (.mk hA hO ?_ h9)
    rw [List.replicate_succ']
    exact kct_snoc h1
  · rw [List.size_toArray, PySem.sizeLine_eq]; omega
end
section
variable {w : World} {mean : ExcName → Option Value} {mg mb : Str → Option Value} {R : List Nat} {rest : List (Addr × Obj)} {ad : List Nat} {x : Nat} {ck : List Nat} {sz of : Int} {er pl pc : Nat} {bf : Option Nat} {pla : Int} {news : List (Addr × Obj)}
set_option maxRecDepth 100000 in
set_option maxHeartbeats 8000000 in
theorem pos_spec (hL : LedR w R rest ad x ck sz of er (pl : Int) (pc : Int) bf pla news) (o : Nat) (t : Tok) (ho : o ≤ ck.length) (hsz : ck.length ≤ 10000) :
    Spec w mean mg mb 91 [.ref x, .int (o : Int) t] 5 60 news (fun v n => PosIs v n news ((ck.take o).foldl adv (pl, pc))) := by
  refine Spec.of ?_
  intro dp un gd cn cs a ccd cl outer A₀ base h₀ L m s Q E B F X N T hk hd hu hret
  k_with_none
  k_with "tb" => (first | assumption | omega | (simp only [List.length_append, List.length_cons, List.length_nil, List.length_take, List.length_drop, List.length_dropLast, crs_len, partOf_len] at *; omega) | ((with_reducible refine Nat.le_trans (crlf_len _) ?_); tb_start) | ((with_reducible refine Nat.le_trans (split_len _) ?_); tb_start) | ((with_reducible refine Nat.le_trans (norm_len _) ?_); tb_start))
  k_with "call builtin:str.count" => (refine count4 (by decide +kernel) (by first | assumption | omega) ?_)
  k_with "call builtin:str.rfind" => (refine rfind4 (by decide +kernel) (by first | assumption | omega) ?_)
  k_with "call builtin:str.replace" => ((try dsimp only at *); k_dflt (refine repl_crlf_S (by decide +kernel) (by decide +kernel) (by k_ne) (by k_ne) (by k_ne) (by tb_start) ?_); intro _ _ _)
  k_with "call builtin:str.replace" => ((try dsimp only at *); k_dflt (refine repl_cr_S (by decide +kernel) (by decide +kernel) (by k_ne) (by k_ne) (by k_ne) (by tb_start) ?_); intro _ _ _)
  k_with "call builtin:len" => ((with_reducible show wpAny _ _ (call (Value.builtin "len") [Value.str (S _) _]) _ _ _); refine len_S (by tb_start) ?_)
  k_with "call builtin:ord" => ((with_reducible show wpAny _ _ (call (Value.builtin "ord") [Value.str (S _) _]) _ _ _); refine ord_S ?_)
  k_with "binaryOp Add str str" => ((with_reducible show wpAny _ _ (binaryOp Operator.Add (Value.str (S _) _) (Value.str (S _) _)) _ _ _); refine add_S (by tb_start) ?_; intro _ _)
  k_with "inplaceOp Add str str" => ((with_reducible show wpAny _ _ (inplaceOp Operator.Add (Value.str (S _) _) (Value.str (S _) _)) _ _ _); refine iadd_S (by tb_start) ?_; intro _ _)
  k_with "truthy str" => ((with_reducible show wpAny _ _ (truthy (Value.str (S _) _)) _ _ _); refine truthy_S (by tb_start) ?_)
  k_with "compareOp Eq str str" => ((with_reducible show wpAny _ _ (compareOp CmpOp.Eq (Value.str (S _) _) (Value.str (S _) _)) _ _ _); refine eq_S ?_)
  k_with "compareOp NotEq str str" => ((with_reducible show wpAny _ _ (compareOp CmpOp.NotEq (Value.str (S _) _) (Value.str (S _) _)) _ _ _); refine ne_S ?_)
  k_with "subscriptTail Name Slice str ref" => (k_here; (with_reducible rename Fr _ _ _ _ => F'); (with_reducible rename News _ _ _ _ => N'); k_dflt (refine drop_S (s := ⟨_, _, _, _, _⟩) F' N' (by tb_start) ?_); intro _ _ _ _ _; (try k_sweep))
  k_with "subscriptTail Name Slice str ref" => (k_here; (with_reducible rename Fr _ _ _ _ => F'); (with_reducible rename News _ _ _ _ => N'); k_dflt (refine take_S (s := ⟨_, _, _, _, _⟩) F' N' (by tb_start) ?_); intro _ _ _ _ _; (try k_sweep))
  k_with "subscriptTail Name Slice str ref" => (k_here; (with_reducible rename Fr _ _ _ _ => F'); (with_reducible rename News _ _ _ _ => N'); k_dflt (refine mid_S (s := ⟨_, _, _, _, _⟩) F' N' (by tb_start) ?_); intro _ _ _ _ _; (try k_sweep))
  k_with "subscriptTail Name Slice str ref" => (k_here; (with_reducible rename Fr _ _ _ _ => F'); (with_reducible rename News _ _ _ _ => N'); k_dflt (refine part_S (s := ⟨_, _, _, _, _⟩) F' N' (by tb_start) ?_); intro _ _ _ _ _; (try k_sweep))
  k_with "subscriptTail Name Slice str ref" => (k_here; (with_reducible rename Fr _ _ _ _ => F'); (with_reducible rename News _ _ _ _ => N'); k_dflt (refine init_S (s := ⟨_, _, _, _, _⟩) F' N' (by tb_start) ?_); intro _ _ _ _ _; (try k_sweep))
  k_with "subscriptTail Name UnaryOp str int" => (k_here; (with_reducible show wpAny _ _ (subscriptTail _ _ (Value.str (S _) _) (Value.int _ _)) _ _ _); k_dflt (first | (refine last_S (by first | assumption | (intro hz; simp only [hz, List.length_nil] at *; omega)) (by tb_start) ?_) | (refine item_S (by first | assumption | omega | k_extra "my item") (by tb_start) ?_)))
  k_with "subscriptTail Name Name str int" => (k_here; (with_reducible show wpAny _ _ (subscriptTail _ _ (Value.str (S _) _) (Value.int _ _)) _ _ _); first | (with_reducible refine item_S (by k_dflt (first | assumption | omega | k_extra "my item")) (by k_dflt tb_start) ?_) | k_dflt (refine item_Si (by omega) (by first | omega | k_extra "my item") (by tb_start) ?_))
  k_with "subscriptTail Name Constant str int" => (k_here; (with_reducible show wpAny _ _ (subscriptTail _ _ (Value.str (S _) _) (Value.int _ _)) _ _ _); first | (with_reducible refine item_S (by k_dflt (first | assumption | omega | k_extra "my item")) (by k_dflt tb_start) ?_) | k_dflt (refine item_Si (by omega) (by first | omega | k_extra "my item") (by tb_start) ?_))
  k_with "subscriptTail Name BinOp str int" => (k_here; (with_reducible show wpAny _ _ (subscriptTail _ _ (Value.str (S _) _) (Value.int _ _)) _ _ _); first | (with_reducible refine item_S (by k_dflt (first | assumption | omega | k_extra "my item")) (by k_dflt tb_start) ?_) | k_dflt (refine item_Si (by omega) (by first | omega | k_extra "my item") (by tb_start) ?_))
  k_with "subscriptTail Attribute Name str int" => (k_here; (with_reducible show wpAny _ _ (subscriptTail _ _ (Value.str (S _) _) (Value.int _ _)) _ _ _); first | (with_reducible refine item_S (by k_dflt (first | assumption | omega | k_extra "my item")) (by k_dflt tb_start) ?_) | k_dflt (refine item_Si (by omega) (by first | omega | k_extra "my item") (by tb_start) ?_))
  k_with "subscriptTail Attribute Constant str int" => (k_here; (with_reducible show wpAny _ _ (subscriptTail _ _ (Value.str (S _) _) (Value.int _ _)) _ _ _); first | (with_reducible refine item_S (by k_dflt (first | assumption | omega | k_extra "my item")) (by k_dflt tb_start) ?_) | k_dflt (refine item_Si (by omega) (by first | omega | k_extra "my item") (by tb_start) ?_))
  k_with "subscriptTail Attribute Attribute str int" => (k_here; (with_reducible show wpAny _ _ (subscriptTail _ _ (Value.str (S _) _) (Value.int _ _)) _ _ _); first | (with_reducible refine item_S (by k_dflt (first | assumption | omega | k_extra "my item")) (by k_dflt tb_start) ?_) | k_dflt (refine item_Si (by omega) (by first | omega | k_extra "my item") (by tb_start) ?_))
  k_with "truthy ref" => (k_here; k_dflt (refine' truthy_meth ?N ?q ?_; (case N => k_asm); (case q => k_mem); k_whole))
  k_with "exec For Name Name cons nil" => (k_here; (with_reducible rename Fr _ _ _ _ => lF'); k_dflt (refine' For_invVF lF' ?k1 ?k2 ?_; (case k1 => exact rfl); (case k2 => exact rfl); k_whole))
  k_with "exec For Name Subscript cons nil" => (k_here; (with_reducible rename Fr _ _ _ _ => lF'); k_dflt (refine' For_invVF lF' ?k1 ?k2 ?_; (case k1 => exact rfl); (case k2 => exact rfl); k_whole))
  k_with "all" => (refine List.forall_mem_append.mpr ⟨?a, ?b⟩; (case a => k_all); (case b => k_all))
  k_with "rel" => (simp only [List.size_toArray]; rw [PySem.sizeLine_eq]; omega)
  k_with "call builtin:list.append" => (k_here; (with_reducible show wpAny _ _ (call (Value.builtin _) [Value.ref _, _]) _ _ _); k_dflt (refine' append_K ?k1 ?k2 ?k3 ?_ ?z; (case k1 => k_asm); (case k2 => k_asm); (case k3 => k_upd); (case z => tb_rel); k_whole); intro h' F' N'; (try simp only [List.push_toArray] at N'); (try k_sweep))
  k_with "enter" => (refine' code_def ?k1 ?k2 ?k3 ?k4 ?k5 ?kA ?kF ?kK ?k6 ?k7 ?k8 ?k9 ?kB ?_ ?c2 ?c3 ?c4 ?c5; (case kA => exact rfl); (case kF => exact rfl); (case kK => assumption); (case k1 => k_asm); (case k2 => k_asm); (case k3 => k_asm); (case k4 => k_asm); (case k5 => k_asm); (case k6 => k_is); (case k7 => k_is); (case k8 => ktr_room); (case k9 => first | exact BindsTo.of_eq rfl | exact binds_K (by k_in) rfl (by k_is) rfl rfl rfl); (case c5 => decide); (case kB => exact locs rfl); (case c2 => exact rfl); (case c3 => exact rfl); (case c4 => exact rfl); k_whole; intro g' L' h' FG' F' N' B' X' T'; (try dsimp only); (try k_lift B'); (try k_fold))
  k_with "JoinP" => (dsimp only [JoinP])
  k_with "subscriptTail" => (k_here; (with_reducible show wpAny _ _ (subscriptTail _ _ (Value.str (S _) _) (Value.int _ _)) _ _ _); first | (with_reducible refine item_S (by k_dflt (first | assumption | omega | k_extra "my item")) (by k_dflt tb_start) ?_) | k_dflt (refine item_Si (by omega) (by first | omega | k_extra "my item") (by tb_start) ?_))
  k_with "compareOp Eq str str" => ((with_reducible show wpAny _ _ (compareOp CmpOp.Eq (Value.str (S _) _) (Value.str (Str.ofString _) _)) _ _ _); k_dflt (first | refine eq_lit [13] (by decide +kernel) ?_ | refine eq_lit [10] (by decide +kernel) ?_))
  k_with "compareOp NotEq str str" => ((with_reducible show wpAny _ _ (compareOp CmpOp.NotEq (Value.str (S _) _) (Value.str (Str.ofString _) _)) _ _ _); k_dflt (first | refine ne_lit [13] (by decide +kernel) ?_ | refine ne_lit [10] (by decide +kernel) ?_))
  k_with "inplaceOp Add str str" => ((with_reducible show wpAny _ _ (inplaceOp Operator.Add (Value.str (S _) _) (Value.str (Str.ofString _) _)) _ _ _); k_dflt (refine iadd_lit [10] (by decide +kernel) (by tb_start) ?_); intro _ _)
  k_with "getAttr ref" => ((with_reducible show wpAny _ _ (getAttr (Value.ref _) (Str.ofString "chunk") _) _ _ _); k_dflt (refine g_chunk (by assumption) (by k_asm) (by k_asm) ?N ?_; (case N => first | k_asm | exact News.tl (by k_asm) | exact News.tl (News.tl (by k_asm)) | exact News.tl (News.tl (News.tl (by k_asm))))); intro _)
  k_with "getAttr ref" => ((with_reducible show wpAny _ _ (getAttr (Value.ref _) (Str.ofString "chunkSize") _) _ _ _); k_dflt (refine g_size (by assumption) (by k_asm) (by k_asm) ?N ?_; (case N => first | k_asm | exact News.tl (by k_asm) | exact News.tl (News.tl (by k_asm)) | exact News.tl (News.tl (News.tl (by k_asm))))); intro _)
  k_with "getAttr ref" => ((with_reducible show wpAny _ _ (getAttr (Value.ref _) (Str.ofString "chunkOffset") _) _ _ _); k_dflt (refine g_off (by assumption) (by k_asm) (by k_asm) ?N ?_; (case N => first | k_asm | exact News.tl (by k_asm) | exact News.tl (News.tl (by k_asm)) | exact News.tl (News.tl (News.tl (by k_asm))))); intro _)
  k_with "getAttr ref" => ((with_reducible show wpAny _ _ (getAttr (Value.ref _) (Str.ofString "prevNumLines") _) _ _ _); k_dflt (refine g_pl (by assumption) (by k_asm) (by k_asm) ?N ?_; (case N => first | k_asm | exact News.tl (by k_asm) | exact News.tl (News.tl (by k_asm)) | exact News.tl (News.tl (News.tl (by k_asm))))); intro _)
  k_with "getAttr ref" => ((with_reducible show wpAny _ _ (getAttr (Value.ref _) (Str.ofString "prevNumCols") _) _ _ _); k_dflt (refine g_pc (by assumption) (by k_asm) (by k_asm) ?N ?_; (case N => first | k_asm | exact News.tl (by k_asm) | exact News.tl (News.tl (by k_asm)) | exact News.tl (News.tl (News.tl (by k_asm))))); intro _)
  k_with "getAttr ref" => ((with_reducible show wpAny _ _ (getAttr (Value.ref _) (Str.ofString "errors") _) _ _ _); k_dflt (refine g_errors (by assumption) (by k_asm) (by k_asm) ?N ?_; (case N => first | k_asm | exact News.tl (by k_asm) | exact News.tl (News.tl (by k_asm)) | exact News.tl (News.tl (News.tl (by k_asm))))); intro _ hE1)
  k_with "getAttr ref" => ((with_reducible show wpAny _ _ (getAttr (Value.ref _) (Str.ofString "dataStream") _) _ _ _); k_dflt (refine g_stream (by assumption) (by k_asm) (by k_asm) ?N ?_; (case N => first | k_asm | exact News.tl (by k_asm) | exact News.tl (News.tl (by k_asm)) | exact News.tl (News.tl (News.tl (by k_asm))))); intro _ hT1)
  k_with "getAttr ref" => ((with_reducible show wpAny _ _ (getAttr (Value.ref _) (Str.ofString "_bufferedCharacter") _) _ _ _); k_dflt (refine g_buf (by assumption) (by k_asm) (by k_asm) ?N ?_; (case N => first | k_asm | exact News.tl (by k_asm) | exact News.tl (News.tl (by k_asm)) | exact News.tl (News.tl (News.tl (by k_asm))))); intro _ hB1; (try cases hB1))
  k_with "getAttr ref" => ((with_reducible show wpAny _ _ (getAttr (Value.ref _) (Str.ofString "reportCharacterErrors") _) _ _ _); k_dflt (refine g_rep (by assumption) (by k_asm) (by k_asm) ?N ?_; (case N => first | k_asm | exact News.tl (by k_asm) | exact News.tl (News.tl (by k_asm)) | exact News.tl (News.tl (News.tl (by k_asm))))); intro _ hR1)
  k_with "getAttr ref" => ((with_reducible show wpAny _ _ (getAttr (Value.ref _) (Str.ofString "_defaultChunkSize") _) _ _ _); k_dflt (refine g_dflt (by assumption) (by k_asm) (by k_asm) ?N ?_; (case N => first | k_asm | exact News.tl (by k_asm) | exact News.tl (News.tl (by k_asm)) | exact News.tl (News.tl (News.tl (by k_asm))))); intro _)
  k_with "getAttr ref" => ((with_reducible show wpAny _ _ (getAttr (Value.ref _) (Str.ofString "text") _) _ _ _); k_dflt (refine g_text (by assumption) (by assumption) (by k_asm) (by k_asm) ?N ?_; (case N => first | k_asm | exact News.tl (by k_asm) | exact News.tl (News.tl (by k_asm)) | exact News.tl (News.tl (News.tl (by k_asm))))); intro _)
  k_with "getAttr ref" => ((with_reducible show wpAny _ _ (getAttr (Value.ref _) (Str.ofString "place") _) _ _ _); k_dflt (refine g_place (by assumption) (by assumption) (by k_asm) (by k_asm) ?N ?_; (case N => first | k_asm | exact News.tl (by k_asm) | exact News.tl (News.tl (by k_asm)) | exact News.tl (News.tl (News.tl (by k_asm))))); intro _)
  k_with "setAttr ref" => ((with_reducible show wpAny _ _ (setAttr (Value.ref _) (Str.ofString "chunk") _) _ _ _); (with_reducible rename LedR _ _ _ _ _ _ _ _ _ _ _ _ _ _ => hLo); k_dflt (refine s_chunk hLo (by k_asm) (by k_asm) ?N ?_; (case N => first | k_asm | exact News.tl (by k_asm) | exact News.tl (News.tl (by k_asm)) | exact News.tl (News.tl (News.tl (by k_asm))))); intro h' n' F' N' hL'; (try k_sweep); clear hLo)
  k_with "setAttr ref" => ((with_reducible show wpAny _ _ (setAttr (Value.ref _) (Str.ofString "chunk") (Value.str (Str.ofString "") _)) _ _ _); (with_reducible rename LedR _ _ _ _ _ _ _ _ _ _ _ _ _ _ => hLo); k_dflt (refine s_chunk0 hLo (by k_asm) (by k_asm) ?N ?_; (case N => first | k_asm | exact News.tl (by k_asm) | exact News.tl (News.tl (by k_asm)) | exact News.tl (News.tl (News.tl (by k_asm))))); intro h' n' F' N' hL'; (try k_sweep); clear hLo)
  k_with "setAttr ref" => ((with_reducible show wpAny _ _ (setAttr (Value.ref _) (Str.ofString "chunkSize") _) _ _ _); (with_reducible rename LedR _ _ _ _ _ _ _ _ _ _ _ _ _ _ => hLo); k_dflt (refine s_size hLo (by k_asm) (by k_asm) ?N ?_; (case N => first | k_asm | exact News.tl (by k_asm) | exact News.tl (News.tl (by k_asm)) | exact News.tl (News.tl (News.tl (by k_asm))))); intro h' n' F' N' hL'; (try k_sweep); clear hLo)
  k_with "setAttr ref" => ((with_reducible show wpAny _ _ (setAttr (Value.ref _) (Str.ofString "chunkOffset") _) _ _ _); (with_reducible rename LedR _ _ _ _ _ _ _ _ _ _ _ _ _ _ => hLo); k_dflt (refine s_off hLo (by k_asm) (by k_asm) ?N ?_; (case N => first | k_asm | exact News.tl (by k_asm) | exact News.tl (News.tl (by k_asm)) | exact News.tl (News.tl (News.tl (by k_asm))))); intro h' n' F' N' hL'; (try k_sweep); clear hLo)
  k_with "setAttr ref" => ((with_reducible show wpAny _ _ (setAttr (Value.ref _) (Str.ofString "prevNumLines") _) _ _ _); (with_reducible rename LedR _ _ _ _ _ _ _ _ _ _ _ _ _ _ => hLo); k_dflt (refine s_pl hLo (by k_asm) (by k_asm) ?N ?_; (case N => first | k_asm | exact News.tl (by k_asm) | exact News.tl (News.tl (by k_asm)) | exact News.tl (News.tl (News.tl (by k_asm))))); intro h' n' F' N' hL'; (try k_sweep); clear hLo)
  k_with "setAttr ref" => ((with_reducible show wpAny _ _ (setAttr (Value.ref _) (Str.ofString "prevNumCols") _) _ _ _); (with_reducible rename LedR _ _ _ _ _ _ _ _ _ _ _ _ _ _ => hLo); k_dflt (refine s_pc hLo (by k_asm) (by k_asm) ?N ?_; (case N => first | k_asm | exact News.tl (by k_asm) | exact News.tl (News.tl (by k_asm)) | exact News.tl (News.tl (News.tl (by k_asm))))); intro h' n' F' N' hL'; (try k_sweep); clear hLo)
  k_with "setAttr ref" => ((with_reducible show wpAny _ _ (setAttr (Value.ref _) (Str.ofString "_bufferedCharacter") _) _ _ _); (with_reducible rename LedR _ _ _ _ _ _ _ _ _ _ _ _ _ _ => hLo); k_dflt (refine s_buf (by first | exact BufIs.none | exact BufIs.some | assumption) hLo (by k_asm) (by k_asm) ?N ?_; (case N => first | k_asm | exact News.tl (by k_asm) | exact News.tl (News.tl (by k_asm)) | exact News.tl (News.tl (News.tl (by k_asm))))); intro h' n' F' N' hL'; (try k_sweep); clear hLo)
  k_with "setAttr ref" => ((with_reducible show wpAny _ _ (setAttr (Value.ref _) (Str.ofString "place") _) _ _ _); (with_reducible rename LedR _ _ _ _ _ _ _ _ _ _ _ _ _ _ => hLo); k_dflt (refine s_place hLo (by assumption) (by k_asm) (by k_asm) ?N ?_; (case N => first | k_asm | exact News.tl (by k_asm) | exact News.tl (News.tl (by k_asm)) | exact News.tl (News.tl (News.tl (by k_asm))))); intro h' n' F' N' hL'; (try k_sweep); clear hLo)
  k_with "getMethod ref" => ((with_reducible show wpAny _ _ (getMethod (Value.ref _) (Str.ofString "_position") _) _ _ _); k_dflt (refine m_pos_ (by assumption) (by k_asm) (by k_asm) ?N ?_; (case N => first | k_asm | exact News.tl (by k_asm) | exact News.tl (News.tl (by k_asm)) | exact News.tl (News.tl (News.tl (by k_asm))))))
  k_with "getMethod ref" => ((with_reducible show wpAny _ _ (getMethod (Value.ref _) (Str.ofString "position") _) _ _ _); k_dflt (refine m_pos (by assumption) (by k_asm) (by k_asm) ?N ?_; (case N => first | k_asm | exact News.tl (by k_asm) | exact News.tl (News.tl (by k_asm)) | exact News.tl (News.tl (News.tl (by k_asm))))))
  k_with "getMethod ref" => ((with_reducible show wpAny _ _ (getMethod (Value.ref _) (Str.ofString "char") _) _ _ _); k_dflt (refine m_char (by assumption) (by k_asm) (by k_asm) ?N ?_; (case N => first | k_asm | exact News.tl (by k_asm) | exact News.tl (News.tl (by k_asm)) | exact News.tl (News.tl (News.tl (by k_asm))))))
  k_with "getMethod ref" => ((with_reducible show wpAny _ _ (getMethod (Value.ref _) (Str.ofString "readChunk") _) _ _ _); k_dflt (refine m_chunk (by assumption) (by k_asm) (by k_asm) ?N ?_; (case N => first | k_asm | exact News.tl (by k_asm) | exact News.tl (News.tl (by k_asm)) | exact News.tl (News.tl (News.tl (by k_asm))))))
  k_with "getMethod ref" => ((with_reducible show wpAny _ _ (getMethod (Value.ref _) (Str.ofString "unget") _) _ _ _); k_dflt (refine m_unget (by assumption) (by k_asm) (by k_asm) ?N ?_; (case N => first | k_asm | exact News.tl (by k_asm) | exact News.tl (News.tl (by k_asm)) | exact News.tl (News.tl (News.tl (by k_asm))))))
  k_with "getMethod ref" => ((with_reducible show wpAny _ _ (getMethod (Value.ref _) (Str.ofString "charsUntil") _) _ _ _); k_dflt (refine m_until (by assumption) (by k_asm) (by k_asm) ?N ?_; (case N => first | k_asm | exact News.tl (by k_asm) | exact News.tl (News.tl (by k_asm)) | exact News.tl (News.tl (News.tl (by k_asm))))))
  k_with "getMethod ref" => ((with_reducible show wpAny _ _ (getMethod (Value.ref _) (Str.ofString "read") _) _ _ _); k_dflt (refine m_read (by assumption) (by assumption) (by k_asm) (by k_asm) ?N ?_; (case N => first | k_asm | exact News.tl (by k_asm) | exact News.tl (News.tl (by k_asm)) | exact News.tl (News.tl (News.tl (by k_asm))))))
  k_with "getMethod ref" => ((with_reducible show wpAny _ _ (getMethod (Value.ref _) (Str.ofString "reportCharacterErrors") _) _ _ _); k_dflt (refine m_rep (by assumption) (by k_asm) (by k_asm) ?N ?_; (case N => first | k_asm | exact News.tl (by k_asm) | exact News.tl (News.tl (by k_asm)) | exact News.tl (News.tl (News.tl (by k_asm))))); intro _ hR1)
  k_with "getMethod ref" => ((with_reducible show wpAny _ _ (getMethod (Value.ref _) (Str.ofString "append") _) _ _ _); k_dflt (refine m_append (by assumption) (by assumption) (by k_asm) (by k_asm) ?N ?_; (case N => first | k_asm | exact News.tl (by k_asm) | exact News.tl (News.tl (by k_asm)) | exact News.tl (News.tl (News.tl (by k_asm))))))
  k_with "call builtin:list.append" => ((with_reducible rename LedR _ _ _ _ _ _ _ _ _ _ _ _ _ _ => hLo); k_dflt (refine app_err hLo (by assumption) (by k_asm) (by k_asm) ?N (by omega) ?_; (case N => first | k_asm | exact News.tl (by k_asm) | exact News.tl (News.tl (by k_asm)) | exact News.tl (News.tl (News.tl (by k_asm))))); intro h' n' F' N' hL'; (try k_sweep); clear hLo)
  k_dflt (k_extra "enter")
  (rename Fr _ _ _ _ => F1)
  (with_unfolding_all change Fr _ _ _ (fun y => List.lookup y [(Str.ofString "offset", Value.int (o : Int) t), (Str.ofString "self", Value.ref x)]) at F1)
  k_steps
  all_goals (
    refine hret _ _ _ _ ⟨_, _, _, _, _, rfl, ?_, rfl, ?_, ?_⟩ (by assumption) (by assumption)
    · first | exact kst_ltOf (by assumption) | assumption
    · have h1 := lines_of ck o (pl, pc) ho
      omega
    · have h1 := rf_none (l := ck) (pl, pc) ho
      have h2 := rf_some (l := ck) (pl, pc) ho
      simp only [beq_iff_eq, decide_eq_true_eq, decide_eq_false_iff_not, beq_eq_false_iff_ne] at *
      omega)
end
section
variable {w : World} {mean : ExcName → Option Value} {mg mb : Str → Option Value} {R : List Nat} {rest : List (Addr × Obj)} {ad : List Nat} {x xT : Nat} {ck : List Nat} {sz of : Int} {er : Nat} {pl pc : Int} {bf : Option Nat} {pla : Nat} {news : List (Addr × Obj)}
set_option maxRecDepth 100000 in
set_option maxHeartbeats 8000000 in
theorem inv_spec (c : Nat) (t : Tok) (news : List (Addr × Obj)) : Spec w mean mg mb 56 [.int (c : Int) t] 5 30 news (fun v n => v = .bool (isInv c) ∧ n = news) := by
  refine Spec.of ?_
  intro dp un gd cn cs a ccd cl outer A₀ base h₀ L m s Q E B F X N T hk hd hu hret
  k_with_none
  k_with "tb" => (first | assumption | omega | (simp only [List.length_append, List.length_cons, List.length_nil, List.length_take, List.length_drop, List.length_dropLast, crs_len, partOf_len] at *; omega) | ((with_reducible refine Nat.le_trans (crlf_len _) ?_); tb_start) | ((with_reducible refine Nat.le_trans (split_len _) ?_); tb_start) | ((with_reducible refine Nat.le_trans (norm_len _) ?_); tb_start))
  k_with "call builtin:str.count" => (refine count4 (by decide +kernel) (by first | assumption | omega) ?_)
  k_with "call builtin:str.rfind" => (refine rfind4 (by decide +kernel) (by first | assumption | omega) ?_)
  k_with "call builtin:str.replace" => ((try dsimp only at *); k_dflt (refine repl_crlf_S (by decide +kernel) (by decide +kernel) (by k_ne) (by k_ne) (by k_ne) (by tb_start) ?_); intro _ _ _)
  k_with "call builtin:str.replace" => ((try dsimp only at *); k_dflt (refine repl_cr_S (by decide +kernel) (by decide +kernel) (by k_ne) (by k_ne) (by k_ne) (by tb_start) ?_); intro _ _ _)
  k_with "call builtin:len" => ((with_reducible show wpAny _ _ (call (Value.builtin "len") [Value.str (S _) _]) _ _ _); refine len_S (by tb_start) ?_)
  k_with "call builtin:ord" => ((with_reducible show wpAny _ _ (call (Value.builtin "ord") [Value.str (S _) _]) _ _ _); refine ord_S ?_)
  k_with "binaryOp Add str str" => ((with_reducible show wpAny _ _ (binaryOp Operator.Add (Value.str (S _) _) (Value.str (S _) _)) _ _ _); refine add_S (by tb_start) ?_; intro _ _)
  k_with "inplaceOp Add str str" => ((with_reducible show wpAny _ _ (inplaceOp Operator.Add (Value.str (S _) _) (Value.str (S _) _)) _ _ _); refine iadd_S (by tb_start) ?_; intro _ _)
  k_with "truthy str" => ((with_reducible show wpAny _ _ (truthy (Value.str (S _) _)) _ _ _); refine truthy_S (by tb_start) ?_)
  k_with "compareOp Eq str str" => ((with_reducible show wpAny _ _ (compareOp CmpOp.Eq (Value.str (S _) _) (Value.str (S _) _)) _ _ _); refine eq_S ?_)
  k_with "compareOp NotEq str str" => ((with_reducible show wpAny _ _ (compareOp CmpOp.NotEq (Value.str (S _) _) (Value.str (S _) _)) _ _ _); refine ne_S ?_)
  k_with "subscriptTail Name Slice str ref" => (k_here; (with_reducible rename Fr _ _ _ _ => F'); (with_reducible rename News _ _ _ _ => N'); k_dflt (refine drop_S (s := ⟨_, _, _, _, _⟩) F' N' (by tb_start) ?_); intro _ _ _ _ _; (try k_sweep))
  k_with "subscriptTail Name Slice str ref" => (k_here; (with_reducible rename Fr _ _ _ _ => F'); (with_reducible rename News _ _ _ _ => N'); k_dflt (refine take_S (s := ⟨_, _, _, _, _⟩) F' N' (by tb_start) ?_); intro _ _ _ _ _; (try k_sweep))
  k_with "subscriptTail Name Slice str ref" => (k_here; (with_reducible rename Fr _ _ _ _ => F'); (with_reducible rename News _ _ _ _ => N'); k_dflt (refine mid_S (s := ⟨_, _, _, _, _⟩) F' N' (by tb_start) ?_); intro _ _ _ _ _; (try k_sweep))
  k_with "subscriptTail Name Slice str ref" => (k_here; (with_reducible rename Fr _ _ _ _ => F'); (with_reducible rename News _ _ _ _ => N'); k_dflt (refine part_S (s := ⟨_, _, _, _, _⟩) F' N' (by tb_start) ?_); intro _ _ _ _ _; (try k_sweep))
  k_with "subscriptTail Name Slice str ref" => (k_here; (with_reducible rename Fr _ _ _ _ => F'); (with_reducible rename News _ _ _ _ => N'); k_dflt (refine init_S (s := ⟨_, _, _, _, _⟩) F' N' (by tb_start) ?_); intro _ _ _ _ _; (try k_sweep))
  k_with "subscriptTail Name UnaryOp str int" => (k_here; (with_reducible show wpAny _ _ (subscriptTail _ _ (Value.str (S _) _) (Value.int _ _)) _ _ _); k_dflt (first | (refine last_S (by first | assumption | (intro hz; simp only [hz, List.length_nil] at *; omega)) (by tb_start) ?_) | (refine item_S (by first | assumption | omega | k_extra "my item") (by tb_start) ?_)))
  k_with "subscriptTail Name Name str int" => (k_here; (with_reducible show wpAny _ _ (subscriptTail _ _ (Value.str (S _) _) (Value.int _ _)) _ _ _); first | (with_reducible refine item_S (by k_dflt (first | assumption | omega | k_extra "my item")) (by k_dflt tb_start) ?_) | k_dflt (refine item_Si (by omega) (by first | omega | k_extra "my item") (by tb_start) ?_))
  k_with "subscriptTail Name Constant str int" => (k_here; (with_reducible show wpAny _ _ (subscriptTail _ _ (Value.str (S _) _) (Value.int _ _)) _ _ _); first | (with_reducible refine item_S (by k_dflt (first | assumption | omega | k_extra "my item")) (by k_dflt tb_start) ?_) | k_dflt (refine item_Si (by omega) (by first | omega | k_extra "my item") (by tb_start) ?_))
  k_with "subscriptTail Name BinOp str int" => (k_here; (with_reducible show wpAny _ _ (subscriptTail _ _ (Value.str (S _) _) (Value.int _ _)) _ _ _); first | (with_reducible refine item_S (by k_dflt (first | assumption | omega | k_extra "my item")) (by k_dflt tb_start) ?_) | k_dflt (refine item_Si (by omega) (by first | omega | k_extra "my item") (by tb_start) ?_))
  k_with "subscriptTail Attribute Name str int" => (k_here; (with_reducible show wpAny _ _ (subscriptTail _ _ (Value.str (S _) _) (Value.int _ _)) _ _ _); first | (with_reducible refine item_S (by k_dflt (first | assumption | omega | k_extra "my item")) (by k_dflt tb_start) ?_) | k_dflt (refine item_Si (by omega) (by first | omega | k_extra "my item") (by tb_start) ?_))
  k_with "subscriptTail Attribute Constant str int" => (k_here; (with_reducible show wpAny _ _ (subscriptTail _ _ (Value.str (S _) _) (Value.int _ _)) _ _ _); first | (with_reducible refine item_S (by k_dflt (first | assumption | omega | k_extra "my item")) (by k_dflt tb_start) ?_) | k_dflt (refine item_Si (by omega) (by first | omega | k_extra "my item") (by tb_start) ?_))
  k_with "subscriptTail Attribute Attribute str int" => (k_here; (with_reducible show wpAny _ _ (subscriptTail _ _ (Value.str (S _) _) (Value.int _ _)) _ _ _); first | (with_reducible refine item_S (by k_dflt (first | assumption | omega | k_extra "my item")) (by k_dflt tb_start) ?_) | k_dflt (refine item_Si (by omega) (by first | omega | k_extra "my item") (by tb_start) ?_))
  k_with "truthy ref" => (k_here; k_dflt (refine' truthy_meth ?N ?q ?_; (case N => k_asm); (case q => k_mem); k_whole))
  k_with "exec For Name Name cons nil" => (k_here; (with_reducible rename Fr _ _ _ _ => lF'); k_dflt (refine' For_invVF lF' ?k1 ?k2 ?_; (case k1 => exact rfl); (case k2 => exact rfl); k_whole))
  k_with "exec For Name Subscript cons nil" => (k_here; (with_reducible rename Fr _ _ _ _ => lF'); k_dflt (refine' For_invVF lF' ?k1 ?k2 ?_; (case k1 => exact rfl); (case k2 => exact rfl); k_whole))
  k_with "all" => (refine List.forall_mem_append.mpr ⟨?a, ?b⟩; (case a => k_all); (case b => k_all))
  k_with "rel" => (simp only [List.size_toArray]; rw [PySem.sizeLine_eq]; omega)
  k_with "call builtin:list.append" => (k_here; (with_reducible show wpAny _ _ (call (Value.builtin _) [Value.ref _, _]) _ _ _); k_dflt (refine' append_K ?k1 ?k2 ?k3 ?_ ?z; (case k1 => k_asm); (case k2 => k_asm); (case k3 => k_upd); (case z => tb_rel); k_whole); intro h' F' N'; (try simp only [List.push_toArray] at N'); (try k_sweep))
  k_with "enter" => (refine' code_def ?k1 ?k2 ?k3 ?k4 ?k5 ?kA ?kF ?kK ?k6 ?k7 ?k8 ?k9 ?kB ?_ ?c2 ?c3 ?c4 ?c5; (case kA => exact rfl); (case kF => exact rfl); (case kK => assumption); (case k1 => k_asm); (case k2 => k_asm); (case k3 => k_asm); (case k4 => k_asm); (case k5 => k_asm); (case k6 => k_is); (case k7 => k_is); (case k8 => ktr_room); (case k9 => first | exact BindsTo.of_eq rfl | exact binds_K (by k_in) rfl (by k_is) rfl rfl rfl); (case c5 => decide); (case kB => exact locs rfl); (case c2 => exact rfl); (case c3 => exact rfl); (case c4 => exact rfl); k_whole; intro g' L' h' FG' F' N' B' X' T'; (try dsimp only); (try k_lift B'); (try k_fold))
  k_with "JoinP" => (dsimp only [JoinP])
  k_with "subscriptTail" => (k_here; (with_reducible show wpAny _ _ (subscriptTail _ _ (Value.str (S _) _) (Value.int _ _)) _ _ _); first | (with_reducible refine item_S (by k_dflt (first | assumption | omega | k_extra "my item")) (by k_dflt tb_start) ?_) | k_dflt (refine item_Si (by omega) (by first | omega | k_extra "my item") (by tb_start) ?_))
  k_with "compareOp Eq str str" => ((with_reducible show wpAny _ _ (compareOp CmpOp.Eq (Value.str (S _) _) (Value.str (Str.ofString _) _)) _ _ _); k_dflt (first | refine eq_lit [13] (by decide +kernel) ?_ | refine eq_lit [10] (by decide +kernel) ?_))
  k_with "compareOp NotEq str str" => ((with_reducible show wpAny _ _ (compareOp CmpOp.NotEq (Value.str (S _) _) (Value.str (Str.ofString _) _)) _ _ _); k_dflt (first | refine ne_lit [13] (by decide +kernel) ?_ | refine ne_lit [10] (by decide +kernel) ?_))
  k_with "inplaceOp Add str str" => ((with_reducible show wpAny _ _ (inplaceOp Operator.Add (Value.str (S _) _) (Value.str (Str.ofString _) _)) _ _ _); k_dflt (refine iadd_lit [10] (by decide +kernel) (by tb_start) ?_); intro _ _)
  k_with "eval BoolOp" => ((with_reducible show wpAny _ _ (eval (Expr.BoolOp BoolOp.Or [_, _, _, _, _, _, _] _) _) _ _ _); (rename Fr _ _ _ _ => F1); (rename News _ _ _ _ => N1); k_dflt (refine' join_e (fun v => v = .bool (isInv c)) ?jF ?jN ?ja ?jb); (case' jF => exact F1); (case' jN => exact N1); (case' jb => clear F1 N1; intro v h' tk' hv F' N'; subst hv; (try k_fold)))
  k_dflt (k_extra "enter")
  (rename Fr _ _ _ _ => F1)
  (with_unfolding_all change Fr _ _ _ (fun y => List.lookup y [(Str.ofString "codepoint", Value.int (c : Int) t)]) at F1)
  k_steps
  all_goals first
    | exact hret _ _ _ _ ⟨rfl, rfl⟩ (by assumption) (by assumption)
    | refine join_e_end (by assumption) (by first | assumption | exact News.tl (by assumption)) (congrArg Value.bool ?_)
  all_goals first
    | exact inv_t (.inr (.inl (by omega))) (beq_iff_eq.mpr (by assumption))
    | exact inv_t (.inr (.inr (.inr (.inr (.inr (.inl ((inv_mod (by assumption)).mp rfl))))))) (by assumption)
    | (have h6 := mt (inv_mod (by assumption)).mpr Bool.false_ne_true
       by_cases hz : (c : Int) ≤ 57343 ∧ 55296 ≤ (c : Int)
       · exact inv_t (.inr (.inr (.inr (.inr (.inr (.inr ⟨by omega, by omega⟩)))))) (decide_eq_true (by omega))
       · exact inv_f (by omega) (by omega) (by omega) (by omega) (by omega) h6 (by omega) (decide_eq_false (by omega)))
    | exact inv_t (.inl ⟨by omega, by omega⟩) (decide_eq_true (by assumption))
    | exact inv_t (.inr (.inr (.inl ⟨by omega, by omega⟩))) (decide_eq_true (by assumption))
    | exact inv_t (.inr (.inr (.inr (.inl ⟨by omega, by omega⟩)))) (decide_eq_true (by assumption))
    | exact inv_t (.inr (.inr (.inr (.inr (.inl ⟨by omega, by omega⟩))))) (decide_eq_true (by assumption))
    | trace_state

set_option maxRecDepth 100000 in
set_option maxHeartbeats 8000000 in
theorem read_spec (hL : LedR w R rest ad x ck sz of er pl pc bf (pla : Int) news) (hT : ad[1]? = some xT) (size : Nat) (t : Tok) (hR : R.length ≤ 1000) (hp : pla ≤ 1000) (hsz : size ≤ 100000) :
    Spec w mean mg mb 42 [.ref xT, .int (size : Int) t] 5 60 news (fun v n => (∃ t', v = .str (S (partOf R size pla)) t') ∧ LedR w R rest ad x ck sz of er pl pc bf ((pla + (partOf R size pla).length : Nat) : Int) n) := by
  refine Spec.of ?_
  intro dp un gd cn cs a ccd cl outer A₀ base h₀ L m s Q E B F X N T hk hd hu hret
  k_with_none
  k_with "tb" => (first | assumption | omega | (simp only [List.length_append, List.length_cons, List.length_nil, List.length_take, List.length_drop, List.length_dropLast, crs_len, partOf_len] at *; omega) | ((with_reducible refine Nat.le_trans (crlf_len _) ?_); tb_start) | ((with_reducible refine Nat.le_trans (split_len _) ?_); tb_start) | ((with_reducible refine Nat.le_trans (norm_len _) ?_); tb_start))
  k_with "call builtin:str.count" => (refine count4 (by decide +kernel) (by first | assumption | omega) ?_)
  k_with "call builtin:str.rfind" => (refine rfind4 (by decide +kernel) (by first | assumption | omega) ?_)
  k_with "call builtin:str.replace" => ((try dsimp only at *); k_dflt (refine repl_crlf_S (by decide +kernel) (by decide +kernel) (by k_ne) (by k_ne) (by k_ne) (by tb_start) ?_); intro _ _ _)
  k_with "call builtin:str.replace" => ((try dsimp only at *); k_dflt (refine repl_cr_S (by decide +kernel) (by decide +kernel) (by k_ne) (by k_ne) (by k_ne) (by tb_start) ?_); intro _ _ _)
  k_with "call builtin:len" => ((with_reducible show wpAny _ _ (call (Value.builtin "len") [Value.str (S _) _]) _ _ _); refine len_S (by tb_start) ?_)
  k_with "call builtin:ord" => ((with_reducible show wpAny _ _ (call (Value.builtin "ord") [Value.str (S _) _]) _ _ _); refine ord_S ?_)
  k_with "binaryOp Add str str" => ((with_reducible show wpAny _ _ (binaryOp Operator.Add (Value.str (S _) _) (Value.str (S _) _)) _ _ _); refine add_S (by tb_start) ?_; intro _ _)
  k_with "inplaceOp Add str str" => ((with_reducible show wpAny _ _ (inplaceOp Operator.Add (Value.str (S _) _) (Value.str (S _) _)) _ _ _); refine iadd_S (by tb_start) ?_; intro _ _)
  k_with "truthy str" => ((with_reducible show wpAny _ _ (truthy (Value.str (S _) _)) _ _ _); refine truthy_S (by tb_start) ?_)
  k_with "compareOp Eq str str" => ((with_reducible show wpAny _ _ (compareOp CmpOp.Eq (Value.str (S _) _) (Value.str (S _) _)) _ _ _); refine eq_S ?_)
  k_with "compareOp NotEq str str" => ((with_reducible show wpAny _ _ (compareOp CmpOp.NotEq (Value.str (S _) _) (Value.str (S _) _)) _ _ _); refine ne_S ?_)
  k_with "subscriptTail Name Slice str ref" => (k_here; (with_reducible rename Fr _ _ _ _ => F'); (with_reducible rename News _ _ _ _ => N'); k_dflt (refine drop_S (s := ⟨_, _, _, _, _⟩) F' N' (by tb_start) ?_); intro _ _ _ _ _; (try k_sweep))
  k_with "subscriptTail Name Slice str ref" => (k_here; (with_reducible rename Fr _ _ _ _ => F'); (with_reducible rename News _ _ _ _ => N'); k_dflt (refine take_S (s := ⟨_, _, _, _, _⟩) F' N' (by tb_start) ?_); intro _ _ _ _ _; (try k_sweep))
  k_with "subscriptTail Name Slice str ref" => (k_here; (with_reducible rename Fr _ _ _ _ => F'); (with_reducible rename News _ _ _ _ => N'); k_dflt (refine mid_S (s := ⟨_, _, _, _, _⟩) F' N' (by tb_start) ?_); intro _ _ _ _ _; (try k_sweep))
  k_with "subscriptTail Name Slice str ref" => (k_here; (with_reducible rename Fr _ _ _ _ => F'); (with_reducible rename News _ _ _ _ => N'); k_dflt (refine part_S (s := ⟨_, _, _, _, _⟩) F' N' (by tb_start) ?_); intro _ _ _ _ _; (try k_sweep))
  k_with "subscriptTail Name Slice str ref" => (k_here; (with_reducible rename Fr _ _ _ _ => F'); (with_reducible rename News _ _ _ _ => N'); k_dflt (refine init_S (s := ⟨_, _, _, _, _⟩) F' N' (by tb_start) ?_); intro _ _ _ _ _; (try k_sweep))
  k_with "subscriptTail Name UnaryOp str int" => (k_here; (with_reducible show wpAny _ _ (subscriptTail _ _ (Value.str (S _) _) (Value.int _ _)) _ _ _); k_dflt (first | (refine last_S (by first | assumption | (intro hz; simp only [hz, List.length_nil] at *; omega)) (by tb_start) ?_) | (refine item_S (by first | assumption | omega | k_extra "my item") (by tb_start) ?_)))
  k_with "subscriptTail Name Name str int" => (k_here; (with_reducible show wpAny _ _ (subscriptTail _ _ (Value.str (S _) _) (Value.int _ _)) _ _ _); first | (with_reducible refine item_S (by k_dflt (first | assumption | omega | k_extra "my item")) (by k_dflt tb_start) ?_) | k_dflt (refine item_Si (by omega) (by first | omega | k_extra "my item") (by tb_start) ?_))
  k_with "subscriptTail Name Constant str int" => (k_here; (with_reducible show wpAny _ _ (subscriptTail _ _ (Value.str (S _) _) (Value.int _ _)) _ _ _); first | (with_reducible refine item_S (by k_dflt (first | assumption | omega | k_extra "my item")) (by k_dflt tb_start) ?_) | k_dflt (refine item_Si (by omega) (by first | omega | k_extra "my item") (by tb_start) ?_))
  k_with "subscriptTail Name BinOp str int" => (k_here; (with_reducible show wpAny _ _ (subscriptTail _ _ (Value.str (S _) _) (Value.int _ _)) _ _ _); first | (with_reducible refine item_S (by k_dflt (first | assumption | omega | k_extra "my item")) (by k_dflt tb_start) ?_) | k_dflt (refine item_Si (by omega) (by first | omega | k_extra "my item") (by tb_start) ?_))
  k_with "subscriptTail Attribute Name str int" => (k_here; (with_reducible show wpAny _ _ (subscriptTail _ _ (Value.str (S _) _) (Value.int _ _)) _ _ _); first | (with_reducible refine item_S (by k_dflt (first | assumption | omega | k_extra "my item")) (by k_dflt tb_start) ?_) | k_dflt (refine item_Si (by omega) (by first | omega | k_extra "my item") (by tb_start) ?_))
  k_with "subscriptTail Attribute Constant str int" => (k_here; (with_reducible show wpAny _ _ (subscriptTail _ _ (Value.str (S _) _) (Value.int _ _)) _ _ _); first | (with_reducible refine item_S (by k_dflt (first | assumption | omega | k_extra "my item")) (by k_dflt tb_start) ?_) | k_dflt (refine item_Si (by omega) (by first | omega | k_extra "my item") (by tb_start) ?_))
  k_with "subscriptTail Attribute Attribute str int" => (k_here; (with_reducible show wpAny _ _ (subscriptTail _ _ (Value.str (S _) _) (Value.int _ _)) _ _ _); first | (with_reducible refine item_S (by k_dflt (first | assumption | omega | k_extra "my item")) (by k_dflt tb_start) ?_) | k_dflt (refine item_Si (by omega) (by first | omega | k_extra "my item") (by tb_start) ?_))
  k_with "truthy ref" => (k_here; k_dflt (refine' truthy_meth ?N ?q ?_; (case N => k_asm); (case q => k_mem); k_whole))
  k_with "exec For Name Name cons nil" => (k_here; (with_reducible rename Fr _ _ _ _ => lF'); k_dflt (refine' For_invVF lF' ?k1 ?k2 ?_; (case k1 => exact rfl); (case k2 => exact rfl); k_whole))
  k_with "exec For Name Subscript cons nil" => (k_here; (with_reducible rename Fr _ _ _ _ => lF'); k_dflt (refine' For_invVF lF' ?k1 ?k2 ?_; (case k1 => exact rfl); (case k2 => exact rfl); k_whole))
  k_with "all" => (refine List.forall_mem_append.mpr ⟨?a, ?b⟩; (case a => k_all); (case b => k_all))
  k_with "rel" => (simp only [List.size_toArray]; rw [PySem.sizeLine_eq]; omega)
  k_with "call builtin:list.append" => (k_here; (with_reducible show wpAny _ _ (call (Value.builtin _) [Value.ref _, _]) _ _ _); k_dflt (refine' append_K ?k1 ?k2 ?k3 ?_ ?z; (case k1 => k_asm); (case k2 => k_asm); (case k3 => k_upd); (case z => tb_rel); k_whole); intro h' F' N'; (try simp only [List.push_toArray] at N'); (try k_sweep))
  k_with "enter" => (refine' code_def ?k1 ?k2 ?k3 ?k4 ?k5 ?kA ?kF ?kK ?k6 ?k7 ?k8 ?k9 ?kB ?_ ?c2 ?c3 ?c4 ?c5; (case kA => exact rfl); (case kF => exact rfl); (case kK => assumption); (case k1 => k_asm); (case k2 => k_asm); (case k3 => k_asm); (case k4 => k_asm); (case k5 => k_asm); (case k6 => k_is); (case k7 => k_is); (case k8 => ktr_room); (case k9 => first | exact BindsTo.of_eq rfl | exact binds_K (by k_in) rfl (by k_is) rfl rfl rfl); (case c5 => decide); (case kB => exact locs rfl); (case c2 => exact rfl); (case c3 => exact rfl); (case c4 => exact rfl); k_whole; intro g' L' h' FG' F' N' B' X' T'; (try dsimp only); (try k_lift B'); (try k_fold))
  k_with "JoinP" => (dsimp only [JoinP])
  k_with "subscriptTail" => (k_here; (with_reducible show wpAny _ _ (subscriptTail _ _ (Value.str (S _) _) (Value.int _ _)) _ _ _); first | (with_reducible refine item_S (by k_dflt (first | assumption | omega | k_extra "my item")) (by k_dflt tb_start) ?_) | k_dflt (refine item_Si (by omega) (by first | omega | k_extra "my item") (by tb_start) ?_))
  k_with "compareOp Eq str str" => ((with_reducible show wpAny _ _ (compareOp CmpOp.Eq (Value.str (S _) _) (Value.str (Str.ofString _) _)) _ _ _); k_dflt (first | refine eq_lit [13] (by decide +kernel) ?_ | refine eq_lit [10] (by decide +kernel) ?_))
  k_with "compareOp NotEq str str" => ((with_reducible show wpAny _ _ (compareOp CmpOp.NotEq (Value.str (S _) _) (Value.str (Str.ofString _) _)) _ _ _); k_dflt (first | refine ne_lit [13] (by decide +kernel) ?_ | refine ne_lit [10] (by decide +kernel) ?_))
  k_with "inplaceOp Add str str" => ((with_reducible show wpAny _ _ (inplaceOp Operator.Add (Value.str (S _) _) (Value.str (Str.ofString _) _)) _ _ _); k_dflt (refine iadd_lit [10] (by decide +kernel) (by tb_start) ?_); intro _ _)
  k_with "getAttr ref" => ((with_reducible show wpAny _ _ (getAttr (Value.ref _) (Str.ofString "chunk") _) _ _ _); k_dflt (refine g_chunk (by assumption) (by k_asm) (by k_asm) ?N ?_; (case N => first | k_asm | exact News.tl (by k_asm) | exact News.tl (News.tl (by k_asm)) | exact News.tl (News.tl (News.tl (by k_asm))))); intro _)
  k_with "getAttr ref" => ((with_reducible show wpAny _ _ (getAttr (Value.ref _) (Str.ofString "chunkSize") _) _ _ _); k_dflt (refine g_size (by assumption) (by k_asm) (by k_asm) ?N ?_; (case N => first | k_asm | exact News.tl (by k_asm) | exact News.tl (News.tl (by k_asm)) | exact News.tl (News.tl (News.tl (by k_asm))))); intro _)
  k_with "getAttr ref" => ((with_reducible show wpAny _ _ (getAttr (Value.ref _) (Str.ofString "chunkOffset") _) _ _ _); k_dflt (refine g_off (by assumption) (by k_asm) (by k_asm) ?N ?_; (case N => first | k_asm | exact News.tl (by k_asm) | exact News.tl (News.tl (by k_asm)) | exact News.tl (News.tl (News.tl (by k_asm))))); intro _)
  k_with "getAttr ref" => ((with_reducible show wpAny _ _ (getAttr (Value.ref _) (Str.ofString "prevNumLines") _) _ _ _); k_dflt (refine g_pl (by assumption) (by k_asm) (by k_asm) ?N ?_; (case N => first | k_asm | exact News.tl (by k_asm) | exact News.tl (News.tl (by k_asm)) | exact News.tl (News.tl (News.tl (by k_asm))))); intro _)
  k_with "getAttr ref" => ((with_reducible show wpAny _ _ (getAttr (Value.ref _) (Str.ofString "prevNumCols") _) _ _ _); k_dflt (refine g_pc (by assumption) (by k_asm) (by k_asm) ?N ?_; (case N => first | k_asm | exact News.tl (by k_asm) | exact News.tl (News.tl (by k_asm)) | exact News.tl (News.tl (News.tl (by k_asm))))); intro _)
  k_with "getAttr ref" => ((with_reducible show wpAny _ _ (getAttr (Value.ref _) (Str.ofString "errors") _) _ _ _); k_dflt (refine g_errors (by assumption) (by k_asm) (by k_asm) ?N ?_; (case N => first | k_asm | exact News.tl (by k_asm) | exact News.tl (News.tl (by k_asm)) | exact News.tl (News.tl (News.tl (by k_asm))))); intro _ hE1)
  k_with "getAttr ref" => ((with_reducible show wpAny _ _ (getAttr (Value.ref _) (Str.ofString "dataStream") _) _ _ _); k_dflt (refine g_stream (by assumption) (by k_asm) (by k_asm) ?N ?_; (case N => first | k_asm | exact News.tl (by k_asm) | exact News.tl (News.tl (by k_asm)) | exact News.tl (News.tl (News.tl (by k_asm))))); intro _ hT1)
  k_with "getAttr ref" => ((with_reducible show wpAny _ _ (getAttr (Value.ref _) (Str.ofString "_bufferedCharacter") _) _ _ _); k_dflt (refine g_buf (by assumption) (by k_asm) (by k_asm) ?N ?_; (case N => first | k_asm | exact News.tl (by k_asm) | exact News.tl (News.tl (by k_asm)) | exact News.tl (News.tl (News.tl (by k_asm))))); intro _ hB1; (try cases hB1))
  k_with "getAttr ref" => ((with_reducible show wpAny _ _ (getAttr (Value.ref _) (Str.ofString "reportCharacterErrors") _) _ _ _); k_dflt (refine g_rep (by assumption) (by k_asm) (by k_asm) ?N ?_; (case N => first | k_asm | exact News.tl (by k_asm) | exact News.tl (News.tl (by k_asm)) | exact News.tl (News.tl (News.tl (by k_asm))))); intro _ hR1)
  k_with "getAttr ref" => ((with_reducible show wpAny _ _ (getAttr (Value.ref _) (Str.ofString "_defaultChunkSize") _) _ _ _); k_dflt (refine g_dflt (by assumption) (by k_asm) (by k_asm) ?N ?_; (case N => first | k_asm | exact News.tl (by k_asm) | exact News.tl (News.tl (by k_asm)) | exact News.tl (News.tl (News.tl (by k_asm))))); intro _)
  k_with "getAttr ref" => ((with_reducible show wpAny _ _ (getAttr (Value.ref _) (Str.ofString "text") _) _ _ _); k_dflt (refine g_text (by assumption) (by assumption) (by k_asm) (by k_asm) ?N ?_; (case N => first | k_asm | exact News.tl (by k_asm) | exact News.tl (News.tl (by k_asm)) | exact News.tl (News.tl (News.tl (by k_asm))))); intro _)
  k_with "getAttr ref" => ((with_reducible show wpAny _ _ (getAttr (Value.ref _) (Str.ofString "place") _) _ _ _); k_dflt (refine g_place (by assumption) (by assumption) (by k_asm) (by k_asm) ?N ?_; (case N => first | k_asm | exact News.tl (by k_asm) | exact News.tl (News.tl (by k_asm)) | exact News.tl (News.tl (News.tl (by k_asm))))); intro _)
  k_with "setAttr ref" => ((with_reducible show wpAny _ _ (setAttr (Value.ref _) (Str.ofString "chunk") _) _ _ _); (with_reducible rename LedR _ _ _ _ _ _ _ _ _ _ _ _ _ _ => hLo); k_dflt (refine s_chunk hLo (by k_asm) (by k_asm) ?N ?_; (case N => first | k_asm | exact News.tl (by k_asm) | exact News.tl (News.tl (by k_asm)) | exact News.tl (News.tl (News.tl (by k_asm))))); intro h' n' F' N' hL'; (try k_sweep); clear hLo)
  k_with "setAttr ref" => ((with_reducible show wpAny _ _ (setAttr (Value.ref _) (Str.ofString "chunk") (Value.str (Str.ofString "") _)) _ _ _); (with_reducible rename LedR _ _ _ _ _ _ _ _ _ _ _ _ _ _ => hLo); k_dflt (refine s_chunk0 hLo (by k_asm) (by k_asm) ?N ?_; (case N => first | k_asm | exact News.tl (by k_asm) | exact News.tl (News.tl (by k_asm)) | exact News.tl (News.tl (News.tl (by k_asm))))); intro h' n' F' N' hL'; (try k_sweep); clear hLo)
  k_with "setAttr ref" => ((with_reducible show wpAny _ _ (setAttr (Value.ref _) (Str.ofString "chunkSize") _) _ _ _); (with_reducible rename LedR _ _ _ _ _ _ _ _ _ _ _ _ _ _ => hLo); k_dflt (refine s_size hLo (by k_asm) (by k_asm) ?N ?_; (case N => first | k_asm | exact News.tl (by k_asm) | exact News.tl (News.tl (by k_asm)) | exact News.tl (News.tl (News.tl (by k_asm))))); intro h' n' F' N' hL'; (try k_sweep); clear hLo)
  k_with "setAttr ref" => ((with_reducible show wpAny _ _ (setAttr (Value.ref _) (Str.ofString "chunkOffset") _) _ _ _); (with_reducible rename LedR _ _ _ _ _ _ _ _ _ _ _ _ _ _ => hLo); k_dflt (refine s_off hLo (by k_asm) (by k_asm) ?N ?_; (case N => first | k_asm | exact News.tl (by k_asm) | exact News.tl (News.tl (by k_asm)) | exact News.tl (News.tl (News.tl (by k_asm))))); intro h' n' F' N' hL'; (try k_sweep); clear hLo)
  k_with "setAttr ref" => ((with_reducible show wpAny _ _ (setAttr (Value.ref _) (Str.ofString "prevNumLines") _) _ _ _); (with_reducible rename LedR _ _ _ _ _ _ _ _ _ _ _ _ _ _ => hLo); k_dflt (refine s_pl hLo (by k_asm) (by k_asm) ?N ?_; (case N => first | k_asm | exact News.tl (by k_asm) | exact News.tl (News.tl (by k_asm)) | exact News.tl (News.tl (News.tl (by k_asm))))); intro h' n' F' N' hL'; (try k_sweep); clear hLo)
  k_with "setAttr ref" => ((with_reducible show wpAny _ _ (setAttr (Value.ref _) (Str.ofString "prevNumCols") _) _ _ _); (with_reducible rename LedR _ _ _ _ _ _ _ _ _ _ _ _ _ _ => hLo); k_dflt (refine s_pc hLo (by k_asm) (by k_asm) ?N ?_; (case N => first | k_asm | exact News.tl (by k_asm) | exact News.tl (News.tl (by k_asm)) | exact News.tl (News.tl (News.tl (by k_asm))))); intro h' n' F' N' hL'; (try k_sweep); clear hLo)
  k_with "setAttr ref" => ((with_reducible show wpAny _ _ (setAttr (Value.ref _) (Str.ofString "_bufferedCharacter") _) _ _ _); (with_reducible rename LedR _ _ _ _ _ _ _ _ _ _ _ _ _ _ => hLo); k_dflt (refine s_buf (by first | exact BufIs.none | exact BufIs.some | assumption) hLo (by k_asm) (by k_asm) ?N ?_; (case N => first | k_asm | exact News.tl (by k_asm) | exact News.tl (News.tl (by k_asm)) | exact News.tl (News.tl (News.tl (by k_asm))))); intro h' n' F' N' hL'; (try k_sweep); clear hLo)
  k_with "setAttr ref" => ((with_reducible show wpAny _ _ (setAttr (Value.ref _) (Str.ofString "place") _) _ _ _); (with_reducible rename LedR _ _ _ _ _ _ _ _ _ _ _ _ _ _ => hLo); k_dflt (refine s_place hLo (by assumption) (by k_asm) (by k_asm) ?N ?_; (case N => first | k_asm | exact News.tl (by k_asm) | exact News.tl (News.tl (by k_asm)) | exact News.tl (News.tl (News.tl (by k_asm))))); intro h' n' F' N' hL'; (try k_sweep); clear hLo)
  k_with "getMethod ref" => ((with_reducible show wpAny _ _ (getMethod (Value.ref _) (Str.ofString "_position") _) _ _ _); k_dflt (refine m_pos_ (by assumption) (by k_asm) (by k_asm) ?N ?_; (case N => first | k_asm | exact News.tl (by k_asm) | exact News.tl (News.tl (by k_asm)) | exact News.tl (News.tl (News.tl (by k_asm))))))
  k_with "getMethod ref" => ((with_reducible show wpAny _ _ (getMethod (Value.ref _) (Str.ofString "position") _) _ _ _); k_dflt (refine m_pos (by assumption) (by k_asm) (by k_asm) ?N ?_; (case N => first | k_asm | exact News.tl (by k_asm) | exact News.tl (News.tl (by k_asm)) | exact News.tl (News.tl (News.tl (by k_asm))))))
  k_with "getMethod ref" => ((with_reducible show wpAny _ _ (getMethod (Value.ref _) (Str.ofString "char") _) _ _ _); k_dflt (refine m_char (by assumption) (by k_asm) (by k_asm) ?N ?_; (case N => first | k_asm | exact News.tl (by k_asm) | exact News.tl (News.tl (by k_asm)) | exact News.tl (News.tl (News.tl (by k_asm))))))
  k_with "getMethod ref" => ((with_reducible show wpAny _ _ (getMethod (Value.ref _) (Str.ofString "readChunk") _) _ _ _); k_dflt (refine m_chunk (by assumption) (by k_asm) (by k_asm) ?N ?_; (case N => first | k_asm | exact News.tl (by k_asm) | exact News.tl (News.tl (by k_asm)) | exact News.tl (News.tl (News.tl (by k_asm))))))
  k_with "getMethod ref" => ((with_reducible show wpAny _ _ (getMethod (Value.ref _) (Str.ofString "unget") _) _ _ _); k_dflt (refine m_unget (by assumption) (by k_asm) (by k_asm) ?N ?_; (case N => first | k_asm | exact News.tl (by k_asm) | exact News.tl (News.tl (by k_asm)) | exact News.tl (News.tl (News.tl (by k_asm))))))
  k_with "getMethod ref" => ((with_reducible show wpAny _ _ (getMethod (Value.ref _) (Str.ofString "charsUntil") _) _ _ _); k_dflt (refine m_until (by assumption) (by k_asm) (by k_asm) ?N ?_; (case N => first | k_asm | exact News.tl (by k_asm) | exact News.tl (News.tl (by k_asm)) | exact News.tl (News.tl (News.tl (by k_asm))))))
  k_with "getMethod ref" => ((with_reducible show wpAny _ _ (getMethod (Value.ref _) (Str.ofString "read") _) _ _ _); k_dflt (refine m_read (by assumption) (by assumption) (by k_asm) (by k_asm) ?N ?_; (case N => first | k_asm | exact News.tl (by k_asm) | exact News.tl (News.tl (by k_asm)) | exact News.tl (News.tl (News.tl (by k_asm))))))
  k_with "getMethod ref" => ((with_reducible show wpAny _ _ (getMethod (Value.ref _) (Str.ofString "reportCharacterErrors") _) _ _ _); k_dflt (refine m_rep (by assumption) (by k_asm) (by k_asm) ?N ?_; (case N => first | k_asm | exact News.tl (by k_asm) | exact News.tl (News.tl (by k_asm)) | exact News.tl (News.tl (News.tl (by k_asm))))); intro _ hR1)
  k_with "getMethod ref" => ((with_reducible show wpAny _ _ (getMethod (Value.ref _) (Str.ofString "append") _) _ _ _); k_dflt (refine m_append (by assumption) (by assumption) (by k_asm) (by k_asm) ?N ?_; (case N => first | k_asm | exact News.tl (by k_asm) | exact News.tl (News.tl (by k_asm)) | exact News.tl (News.tl (News.tl (by k_asm))))))
  k_with "call builtin:list.append" => ((with_reducible rename LedR _ _ _ _ _ _ _ _ _ _ _ _ _ _ => hLo); k_dflt (refine app_err hLo (by assumption) (by k_asm) (by k_asm) ?N (by omega) ?_; (case N => first | k_asm | exact News.tl (by k_asm) | exact News.tl (News.tl (by k_asm)) | exact News.tl (News.tl (News.tl (by k_asm))))); intro h' n' F' N' hL'; (try k_sweep); clear hLo)
  k_dflt (k_extra "enter")
  (rename Fr _ _ _ _ => F1)
  (with_unfolding_all change Fr _ _ _ (fun y => List.lookup y [(Str.ofString "size", Value.int (size : Int) t), (Str.ofString "self", Value.ref xT)]) at F1)
  k_steps
  exact hret _ _ _ _ ⟨⟨_, rfl⟩, by assumption⟩ (by assumption) (by assumption)
end
section
variable {w : World} {mean : ExcName → Option Value} {mg mb : Str → Option Value} {R : List Nat} {rest : List (Addr × Obj)} {ad : List Nat} {x xT : Nat} {ck : List Nat} {sz of : Int} {er : Nat} {pl pc : Int} {bf : Option Nat} {pla : Int} {news : List (Addr × Obj)}
set_option maxRecDepth 100000 in
set_option maxHeartbeats 8000000 in
theorem errs_spec (hL : LedR w R rest ad x ck sz of er pl pc bf pla news) (l : List Nat) (t : Tok) (hl : l.length ≤ 10000) (hE : er ≤ 100000) :
    Spec w mean mg mb 120 [.ref x, .str (S l) t] 15 90 news (fun v n => v = .none ∧ LedR w R rest ad x ck sz of (er + l.countP isInv) pl pc bf pla n) := by
  refine Spec.of ?_
  intro dp un gd cn cs a ccd cl outer A₀ base h₀ L m s Q E B F X N T hk hd hu hret
  k_with_none
  k_with "tb" => (first | assumption | omega | (simp only [List.length_append, List.length_cons, List.length_nil, List.length_take, List.length_drop, List.length_dropLast, crs_len, partOf_len] at *; omega) | ((with_reducible refine Nat.le_trans (crlf_len _) ?_); tb_start) | ((with_reducible refine Nat.le_trans (split_len _) ?_); tb_start) | ((with_reducible refine Nat.le_trans (norm_len _) ?_); tb_start))
  k_with "call builtin:str.count" => (refine count4 (by decide +kernel) (by first | assumption | omega) ?_)
  k_with "call builtin:str.rfind" => (refine rfind4 (by decide +kernel) (by first | assumption | omega) ?_)
  k_with "call builtin:str.replace" => ((try dsimp only at *); k_dflt (refine repl_crlf_S (by decide +kernel) (by decide +kernel) (by k_ne) (by k_ne) (by k_ne) (by tb_start) ?_); intro _ _ _)
  k_with "call builtin:str.replace" => ((try dsimp only at *); k_dflt (refine repl_cr_S (by decide +kernel) (by decide +kernel) (by k_ne) (by k_ne) (by k_ne) (by tb_start) ?_); intro _ _ _)
  k_with "call builtin:len" => ((with_reducible show wpAny _ _ (call (Value.builtin "len") [Value.str (S _) _]) _ _ _); refine len_S (by tb_start) ?_)
  k_with "call builtin:ord" => ((with_reducible show wpAny _ _ (call (Value.builtin "ord") [Value.str (S _) _]) _ _ _); refine ord_S ?_)
  k_with "binaryOp Add str str" => ((with_reducible show wpAny _ _ (binaryOp Operator.Add (Value.str (S _) _) (Value.str (S _) _)) _ _ _); refine add_S (by tb_start) ?_; intro _ _)
  k_with "inplaceOp Add str str" => ((with_reducible show wpAny _ _ (inplaceOp Operator.Add (Value.str (S _) _) (Value.str (S _) _)) _ _ _); refine iadd_S (by tb_start) ?_; intro _ _)
  k_with "truthy str" => ((with_reducible show wpAny _ _ (truthy (Value.str (S _) _)) _ _ _); refine truthy_S (by tb_start) ?_)
  k_with "compareOp Eq str str" => ((with_reducible show wpAny _ _ (compareOp CmpOp.Eq (Value.str (S _) _) (Value.str (S _) _)) _ _ _); refine eq_S ?_)
  k_with "compareOp NotEq str str" => ((with_reducible show wpAny _ _ (compareOp CmpOp.NotEq (Value.str (S _) _) (Value.str (S _) _)) _ _ _); refine ne_S ?_)
  k_with "subscriptTail Name Slice str ref" => (k_here; (with_reducible rename Fr _ _ _ _ => F'); (with_reducible rename News _ _ _ _ => N'); k_dflt (refine drop_S (s := ⟨_, _, _, _, _⟩) F' N' (by tb_start) ?_); intro _ _ _ _ _; (try k_sweep))
  k_with "subscriptTail Name Slice str ref" => (k_here; (with_reducible rename Fr _ _ _ _ => F'); (with_reducible rename News _ _ _ _ => N'); k_dflt (refine take_S (s := ⟨_, _, _, _, _⟩) F' N' (by tb_start) ?_); intro _ _ _ _ _; (try k_sweep))
  k_with "subscriptTail Name Slice str ref" => (k_here; (with_reducible rename Fr _ _ _ _ => F'); (with_reducible rename News _ _ _ _ => N'); k_dflt (refine mid_S (s := ⟨_, _, _, _, _⟩) F' N' (by tb_start) ?_); intro _ _ _ _ _; (try k_sweep))
  k_with "subscriptTail Name Slice str ref" => (k_here; (with_reducible rename Fr _ _ _ _ => F'); (with_reducible rename News _ _ _ _ => N'); k_dflt (refine part_S (s := ⟨_, _, _, _, _⟩) F' N' (by tb_start) ?_); intro _ _ _ _ _; (try k_sweep))
  k_with "subscriptTail Name Slice str ref" => (k_here; (with_reducible rename Fr _ _ _ _ => F'); (with_reducible rename News _ _ _ _ => N'); k_dflt (refine init_S (s := ⟨_, _, _, _, _⟩) F' N' (by tb_start) ?_); intro _ _ _ _ _; (try k_sweep))
  k_with "subscriptTail Name UnaryOp str int" => (k_here; (with_reducible show wpAny _ _ (subscriptTail _ _ (Value.str (S _) _) (Value.int _ _)) _ _ _); k_dflt (first | (refine last_S (by first | assumption | (intro hz; simp only [hz, List.length_nil] at *; omega)) (by tb_start) ?_) | (refine item_S (by first | assumption | omega | k_extra "my item") (by tb_start) ?_)))
  k_with "subscriptTail Name Name str int" => (k_here; (with_reducible show wpAny _ _ (subscriptTail _ _ (Value.str (S _) _) (Value.int _ _)) _ _ _); first | (with_reducible refine item_S (by k_dflt (first | assumption | omega | k_extra "my item")) (by k_dflt tb_start) ?_) | k_dflt (refine item_Si (by omega) (by first | omega | k_extra "my item") (by tb_start) ?_))
  k_with "subscriptTail Name Constant str int" => (k_here; (with_reducible show wpAny _ _ (subscriptTail _ _ (Value.str (S _) _) (Value.int _ _)) _ _ _); first | (with_reducible refine item_S (by k_dflt (first | assumption | omega | k_extra "my item")) (by k_dflt tb_start) ?_) | k_dflt (refine item_Si (by omega) (by first | omega | k_extra "my item") (by tb_start) ?_))
  k_with "subscriptTail Name BinOp str int" => (k_here; (with_reducible show wpAny _ _ (subscriptTail _ _ (Value.str (S _) _) (Value.int _ _)) _ _ _); first | (with_reducible refine item_S (by k_dflt (first | assumption | omega | k_extra "my item")) (by k_dflt tb_start) ?_) | k_dflt (refine item_Si (by omega) (by first | omega | k_extra "my item") (by tb_start) ?_))
  k_with "subscriptTail Attribute Name str int" => (k_here; (with_reducible show wpAny _ _ (subscriptTail _ _ (Value.str (S _) _) (Value.int _ _)) _ _ _); first | (with_reducible refine item_S (by k_dflt (first | assumption | omega | k_extra "my item")) (by k_dflt tb_start) ?_) | k_dflt (refine item_Si (by omega) (by first | omega | k_extra "my item") (by tb_start) ?_))
  k_with "subscriptTail Attribute Constant str int" => (k_here; (with_reducible show wpAny _ _ (subscriptTail _ _ (Value.str (S _) _) (Value.int _ _)) _ _ _); first | (with_reducible refine item_S (by k_dflt (first | assumption | omega | k_extra "my item")) (by k_dflt tb_start) ?_) | k_dflt (refine item_Si (by omega) (by first | omega | k_extra "my item") (by tb_start) ?_))
  k_with "subscriptTail Attribute Attribute str int" => (k_here; (with_reducible show wpAny _ _ (subscriptTail _ _ (Value.str (S _) _) (Value.int _ _)) _ _ _); first | (with_reducible refine item_S (by k_dflt (first | assumption | omega | k_extra "my item")) (by k_dflt tb_start) ?_) | k_dflt (refine item_Si (by omega) (by first | omega | k_extra "my item") (by tb_start) ?_))
  k_with "truthy ref" => (k_here; k_dflt (refine' truthy_meth ?N ?q ?_; (case N => k_asm); (case q => k_mem); k_whole))
  k_with "exec For Name Name cons nil" => (k_here; (with_reducible rename Fr _ _ _ _ => lF'); k_dflt (refine' For_invVF lF' ?k1 ?k2 ?_; (case k1 => exact rfl); (case k2 => exact rfl); k_whole))
  k_with "exec For Name Subscript cons nil" => (k_here; (with_reducible rename Fr _ _ _ _ => lF'); k_dflt (refine' For_invVF lF' ?k1 ?k2 ?_; (case k1 => exact rfl); (case k2 => exact rfl); k_whole))
  k_with "all" => (refine List.forall_mem_append.mpr ⟨?a, ?b⟩; (case a => k_all); (case b => k_all))
  k_with "rel" => (simp only [List.size_toArray]; rw [PySem.sizeLine_eq]; omega)
  k_with "call builtin:list.append" => (k_here; (with_reducible show wpAny _ _ (call (Value.builtin _) [Value.ref _, _]) _ _ _); k_dflt (refine' append_K ?k1 ?k2 ?k3 ?_ ?z; (case k1 => k_asm); (case k2 => k_asm); (case k3 => k_upd); (case z => tb_rel); k_whole); intro h' F' N'; (try simp only [List.push_toArray] at N'); (try k_sweep))
  k_with "enter" => (refine' code_def ?k1 ?k2 ?k3 ?k4 ?k5 ?kA ?kF ?kK ?k6 ?k7 ?k8 ?k9 ?kB ?_ ?c2 ?c3 ?c4 ?c5; (case kA => exact rfl); (case kF => exact rfl); (case kK => assumption); (case k1 => k_asm); (case k2 => k_asm); (case k3 => k_asm); (case k4 => k_asm); (case k5 => k_asm); (case k6 => k_is); (case k7 => k_is); (case k8 => ktr_room); (case k9 => first | exact BindsTo.of_eq rfl | exact binds_K (by k_in) rfl (by k_is) rfl rfl rfl); (case c5 => decide); (case kB => exact locs rfl); (case c2 => exact rfl); (case c3 => exact rfl); (case c4 => exact rfl); k_whole; intro g' L' h' FG' F' N' B' X' T'; (try dsimp only); (try k_lift B'); (try k_fold))
  k_with "JoinP" => (dsimp only [JoinP])
  k_with "subscriptTail" => (k_here; (with_reducible show wpAny _ _ (subscriptTail _ _ (Value.str (S _) _) (Value.int _ _)) _ _ _); first | (with_reducible refine item_S (by k_dflt (first | assumption | omega | k_extra "my item")) (by k_dflt tb_start) ?_) | k_dflt (refine item_Si (by omega) (by first | omega | k_extra "my item") (by tb_start) ?_))
  k_with "compareOp Eq str str" => ((with_reducible show wpAny _ _ (compareOp CmpOp.Eq (Value.str (S _) _) (Value.str (Str.ofString _) _)) _ _ _); k_dflt (first | refine eq_lit [13] (by decide +kernel) ?_ | refine eq_lit [10] (by decide +kernel) ?_))
  k_with "compareOp NotEq str str" => ((with_reducible show wpAny _ _ (compareOp CmpOp.NotEq (Value.str (S _) _) (Value.str (Str.ofString _) _)) _ _ _); k_dflt (first | refine ne_lit [13] (by decide +kernel) ?_ | refine ne_lit [10] (by decide +kernel) ?_))
  k_with "inplaceOp Add str str" => ((with_reducible show wpAny _ _ (inplaceOp Operator.Add (Value.str (S _) _) (Value.str (Str.ofString _) _)) _ _ _); k_dflt (refine iadd_lit [10] (by decide +kernel) (by tb_start) ?_); intro _ _)
  k_with "getAttr ref" => ((with_reducible show wpAny _ _ (getAttr (Value.ref _) (Str.ofString "chunk") _) _ _ _); k_dflt (refine g_chunk (by assumption) (by k_asm) (by k_asm) ?N ?_; (case N => first | k_asm | exact News.tl (by k_asm) | exact News.tl (News.tl (by k_asm)) | exact News.tl (News.tl (News.tl (by k_asm))))); intro _)
  k_with "getAttr ref" => ((with_reducible show wpAny _ _ (getAttr (Value.ref _) (Str.ofString "chunkSize") _) _ _ _); k_dflt (refine g_size (by assumption) (by k_asm) (by k_asm) ?N ?_; (case N => first | k_asm | exact News.tl (by k_asm) | exact News.tl (News.tl (by k_asm)) | exact News.tl (News.tl (News.tl (by k_asm))))); intro _)
  k_with "getAttr ref" => ((with_reducible show wpAny _ _ (getAttr (Value.ref _) (Str.ofString "chunkOffset") _) _ _ _); k_dflt (refine g_off (by assumption) (by k_asm) (by k_asm) ?N ?_; (case N => first | k_asm | exact News.tl (by k_asm) | exact News.tl (News.tl (by k_asm)) | exact News.tl (News.tl (News.tl (by k_asm))))); intro _)
  k_with "getAttr ref" => ((with_reducible show wpAny _ _ (getAttr (Value.ref _) (Str.ofString "prevNumLines") _) _ _ _); k_dflt (refine g_pl (by assumption) (by k_asm) (by k_asm) ?N ?_; (case N => first | k_asm | exact News.tl (by k_asm) | exact News.tl (News.tl (by k_asm)) | exact News.tl (News.tl (News.tl (by k_asm))))); intro _)
  k_with "getAttr ref" => ((with_reducible show wpAny _ _ (getAttr (Value.ref _) (Str.ofString "prevNumCols") _) _ _ _); k_dflt (refine g_pc (by assumption) (by k_asm) (by k_asm) ?N ?_; (case N => first | k_asm | exact News.tl (by k_asm) | exact News.tl (News.tl (by k_asm)) | exact News.tl (News.tl (News.tl (by k_asm))))); intro _)
  k_with "getAttr ref" => ((with_reducible show wpAny _ _ (getAttr (Value.ref _) (Str.ofString "errors") _) _ _ _); k_dflt (refine g_errors (by assumption) (by k_asm) (by k_asm) ?N ?_; (case N => first | k_asm | exact News.tl (by k_asm) | exact News.tl (News.tl (by k_asm)) | exact News.tl (News.tl (News.tl (by k_asm))))); intro _ hE1)
  k_with "getAttr ref" => ((with_reducible show wpAny _ _ (getAttr (Value.ref _) (Str.ofString "dataStream") _) _ _ _); k_dflt (refine g_stream (by assumption) (by k_asm) (by k_asm) ?N ?_; (case N => first | k_asm | exact News.tl (by k_asm) | exact News.tl (News.tl (by k_asm)) | exact News.tl (News.tl (News.tl (by k_asm))))); intro _ hT1)
  k_with "getAttr ref" => ((with_reducible show wpAny _ _ (getAttr (Value.ref _) (Str.ofString "_bufferedCharacter") _) _ _ _); k_dflt (refine g_buf (by assumption) (by k_asm) (by k_asm) ?N ?_; (case N => first | k_asm | exact News.tl (by k_asm) | exact News.tl (News.tl (by k_asm)) | exact News.tl (News.tl (News.tl (by k_asm))))); intro _ hB1; (try cases hB1))
  k_with "getAttr ref" => ((with_reducible show wpAny _ _ (getAttr (Value.ref _) (Str.ofString "reportCharacterErrors") _) _ _ _); k_dflt (refine g_rep (by assumption) (by k_asm) (by k_asm) ?N ?_; (case N => first | k_asm | exact News.tl (by k_asm) | exact News.tl (News.tl (by k_asm)) | exact News.tl (News.tl (News.tl (by k_asm))))); intro _ hR1)
  k_with "getAttr ref" => ((with_reducible show wpAny _ _ (getAttr (Value.ref _) (Str.ofString "_defaultChunkSize") _) _ _ _); k_dflt (refine g_dflt (by assumption) (by k_asm) (by k_asm) ?N ?_; (case N => first | k_asm | exact News.tl (by k_asm) | exact News.tl (News.tl (by k_asm)) | exact News.tl (News.tl (News.tl (by k_asm))))); intro _)
  k_with "getAttr ref" => ((with_reducible show wpAny _ _ (getAttr (Value.ref _) (Str.ofString "text") _) _ _ _); k_dflt (refine g_text (by assumption) (by assumption) (by k_asm) (by k_asm) ?N ?_; (case N => first | k_asm | exact News.tl (by k_asm) | exact News.tl (News.tl (by k_asm)) | exact News.tl (News.tl (News.tl (by k_asm))))); intro _)
  k_with "getAttr ref" => ((with_reducible show wpAny _ _ (getAttr (Value.ref _) (Str.ofString "place") _) _ _ _); k_dflt (refine g_place (by assumption) (by assumption) (by k_asm) (by k_asm) ?N ?_; (case N => first | k_asm | exact News.tl (by k_asm) | exact News.tl (News.tl (by k_asm)) | exact News.tl (News.tl (News.tl (by k_asm))))); intro _)
  k_with "setAttr ref" => ((with_reducible show wpAny _ _ (setAttr (Value.ref _) (Str.ofString "chunk") _) _ _ _); (with_reducible rename LedR _ _ _ _ _ _ _ _ _ _ _ _ _ _ => hLo); k_dflt (refine s_chunk hLo (by k_asm) (by k_asm) ?N ?_; (case N => first | k_asm | exact News.tl (by k_asm) | exact News.tl (News.tl (by k_asm)) | exact News.tl (News.tl (News.tl (by k_asm))))); intro h' n' F' N' hL'; (try k_sweep); clear hLo)
  k_with "setAttr ref" => ((with_reducible show wpAny _ _ (setAttr (Value.ref _) (Str.ofString "chunk") (Value.str (Str.ofString "") _)) _ _ _); (with_reducible rename LedR _ _ _ _ _ _ _ _ _ _ _ _ _ _ => hLo); k_dflt (refine s_chunk0 hLo (by k_asm) (by k_asm) ?N ?_; (case N => first | k_asm | exact News.tl (by k_asm) | exact News.tl (News.tl (by k_asm)) | exact News.tl (News.tl (News.tl (by k_asm))))); intro h' n' F' N' hL'; (try k_sweep); clear hLo)
  k_with "setAttr ref" => ((with_reducible show wpAny _ _ (setAttr (Value.ref _) (Str.ofString "chunkSize") _) _ _ _); (with_reducible rename LedR _ _ _ _ _ _ _ _ _ _ _ _ _ _ => hLo); k_dflt (refine s_size hLo (by k_asm) (by k_asm) ?N ?_; (case N => first | k_asm | exact News.tl (by k_asm) | exact News.tl (News.tl (by k_asm)) | exact News.tl (News.tl (News.tl (by k_asm))))); intro h' n' F' N' hL'; (try k_sweep); clear hLo)
  k_with "setAttr ref" => ((with_reducible show wpAny _ _ (setAttr (Value.ref _) (Str.ofString "chunkOffset") _) _ _ _); (with_reducible rename LedR _ _ _ _ _ _ _ _ _ _ _ _ _ _ => hLo); k_dflt (refine s_off hLo (by k_asm) (by k_asm) ?N ?_; (case N => first | k_asm | exact News.tl (by k_asm) | exact News.tl (News.tl (by k_asm)) | exact News.tl (News.tl (News.tl (by k_asm))))); intro h' n' F' N' hL'; (try k_sweep); clear hLo)
  k_with "setAttr ref" => ((with_reducible show wpAny _ _ (setAttr (Value.ref _) (Str.ofString "prevNumLines") _) _ _ _); (with_reducible rename LedR _ _ _ _ _ _ _ _ _ _ _ _ _ _ => hLo); k_dflt (refine s_pl hLo (by k_asm) (by k_asm) ?N ?_; (case N => first | k_asm | exact News.tl (by k_asm) | exact News.tl (News.tl (by k_asm)) | exact News.tl (News.tl (News.tl (by k_asm))))); intro h' n' F' N' hL'; (try k_sweep); clear hLo)
  k_with "setAttr ref" => ((with_reducible show wpAny _ _ (setAttr (Value.ref _) (Str.ofString "prevNumCols") _) _ _ _); (with_reducible rename LedR _ _ _ _ _ _ _ _ _ _ _ _ _ _ => hLo); k_dflt (refine s_pc hLo (by k_asm) (by k_asm) ?N ?_; (case N => first | k_asm | exact News.tl (by k_asm) | exact News.tl (News.tl (by k_asm)) | exact News.tl (News.tl (News.tl (by k_asm))))); intro h' n' F' N' hL'; (try k_sweep); clear hLo)
  k_with "setAttr ref" => ((with_reducible show wpAny _ _ (setAttr (Value.ref _) (Str.ofString "_bufferedCharacter") _) _ _ _); (with_reducible rename LedR _ _ _ _ _ _ _ _ _ _ _ _ _ _ => hLo); k_dflt (refine s_buf (by first | exact BufIs.none | exact BufIs.some | assumption) hLo (by k_asm) (by k_asm) ?N ?_; (case N => first | k_asm | exact News.tl (by k_asm) | exact News.tl (News.tl (by k_asm)) | exact News.tl (News.tl (News.tl (by k_asm))))); intro h' n' F' N' hL'; (try k_sweep); clear hLo)
  k_with "setAttr ref" => ((with_reducible show wpAny _ _ (setAttr (Value.ref _) (Str.ofString "place") _) _ _ _); (with_reducible rename LedR _ _ _ _ _ _ _ _ _ _ _ _ _ _ => hLo); k_dflt (refine s_place hLo (by assumption) (by k_asm) (by k_asm) ?N ?_; (case N => first | k_asm | exact News.tl (by k_asm) | exact News.tl (News.tl (by k_asm)) | exact News.tl (News.tl (News.tl (by k_asm))))); intro h' n' F' N' hL'; (try k_sweep); clear hLo)
  k_with "getMethod ref" => ((with_reducible show wpAny _ _ (getMethod (Value.ref _) (Str.ofString "_position") _) _ _ _); k_dflt (refine m_pos_ (by assumption) (by k_asm) (by k_asm) ?N ?_; (case N => first | k_asm | exact News.tl (by k_asm) | exact News.tl (News.tl (by k_asm)) | exact News.tl (News.tl (News.tl (by k_asm))))))
  k_with "getMethod ref" => ((with_reducible show wpAny _ _ (getMethod (Value.ref _) (Str.ofString "position") _) _ _ _); k_dflt (refine m_pos (by assumption) (by k_asm) (by k_asm) ?N ?_; (case N => first | k_asm | exact News.tl (by k_asm) | exact News.tl (News.tl (by k_asm)) | exact News.tl (News.tl (News.tl (by k_asm))))))
  k_with "getMethod ref" => ((with_reducible show wpAny _ _ (getMethod (Value.ref _) (Str.ofString "char") _) _ _ _); k_dflt (refine m_char (by assumption) (by k_asm) (by k_asm) ?N ?_; (case N => first | k_asm | exact News.tl (by k_asm) | exact News.tl (News.tl (by k_asm)) | exact News.tl (News.tl (News.tl (by k_asm))))))
  k_with "getMethod ref" => ((with_reducible show wpAny _ _ (getMethod (Value.ref _) (Str.ofString "readChunk") _) _ _ _); k_dflt (refine m_chunk (by assumption) (by k_asm) (by k_asm) ?N ?_; (case N => first | k_asm | exact News.tl (by k_asm) | exact News.tl (News.tl (by k_asm)) | exact News.tl (News.tl (News.tl (by k_asm))))))
  k_with "getMethod ref" => ((with_reducible show wpAny _ _ (getMethod (Value.ref _) (Str.ofString "unget") _) _ _ _); k_dflt (refine m_unget (by assumption) (by k_asm) (by k_asm) ?N ?_; (case N => first | k_asm | exact News.tl (by k_asm) | exact News.tl (News.tl (by k_asm)) | exact News.tl (News.tl (News.tl (by k_asm))))))
  k_with "getMethod ref" => ((with_reducible show wpAny _ _ (getMethod (Value.ref _) (Str.ofString "charsUntil") _) _ _ _); k_dflt (refine m_until (by assumption) (by k_asm) (by k_asm) ?N ?_; (case N => first | k_asm | exact News.tl (by k_asm) | exact News.tl (News.tl (by k_asm)) | exact News.tl (News.tl (News.tl (by k_asm))))))
  k_with "getMethod ref" => ((with_reducible show wpAny _ _ (getMethod (Value.ref _) (Str.ofString "read") _) _ _ _); k_dflt (refine m_read (by assumption) (by assumption) (by k_asm) (by k_asm) ?N ?_; (case N => first | k_asm | exact News.tl (by k_asm) | exact News.tl (News.tl (by k_asm)) | exact News.tl (News.tl (News.tl (by k_asm))))))
  k_with "getMethod ref" => ((with_reducible show wpAny _ _ (getMethod (Value.ref _) (Str.ofString "reportCharacterErrors") _) _ _ _); k_dflt (refine m_rep (by assumption) (by k_asm) (by k_asm) ?N ?_; (case N => first | k_asm | exact News.tl (by k_asm) | exact News.tl (News.tl (by k_asm)) | exact News.tl (News.tl (News.tl (by k_asm))))); intro _ hR1)
  k_with "getMethod ref" => ((with_reducible show wpAny _ _ (getMethod (Value.ref _) (Str.ofString "append") _) _ _ _); k_dflt (refine m_append (by assumption) (by assumption) (by k_asm) (by k_asm) ?N ?_; (case N => first | k_asm | exact News.tl (by k_asm) | exact News.tl (News.tl (by k_asm)) | exact News.tl (News.tl (News.tl (by k_asm))))))
  k_with "call builtin:list.append" => ((with_reducible rename LedR _ _ _ _ _ _ _ _ _ _ _ _ _ _ => hLo); k_dflt (refine app_err hLo (by assumption) (by k_asm) (by k_asm) ?N (by omega) ?_; (case N => first | k_asm | exact News.tl (by k_asm) | exact News.tl (News.tl (by k_asm)) | exact News.tl (News.tl (News.tl (by k_asm))))); intro h' n' F' N' hL'; (try k_sweep); clear hLo)
  k_with "call ref" => ((with_reducible show wpAny _ _ (call (Value.ref 56) _) _ _ _); k_dflt ((refine' Spec.use (inv_spec _ _ _) ?B ?F ?X ?N ?T ?hk ?hd ?hu ?_); (case B => k_asm); (case F => k_asm); (case X => k_asm); (case T => k_asm); (case hk => first | exact rfl | assumption); (case N => first | k_asm | exact News.tl (by k_asm) | exact News.tl (News.tl (by k_asm)) | exact News.tl (News.tl (News.tl (by k_asm)))); (case hd => ktr_room); (case hu => ktr_units); (intro r' n' h' tk' hR' hle' F' N'); (obtain ⟨hr', hn'⟩ := hR'); subst hr'; subst hn'; (try dsimp only); (try k_fold)))
  k_dflt (k_extra "enter")
  (rename Fr _ _ _ _ => F1)
  (with_unfolding_all change Fr _ _ _ (fun y => List.lookup y [(Str.ofString "data", Value.str (S l) t), (Str.ofString "self", Value.ref x)]) at F1)
  k_steps
  (rename Fr _ _ _ _ => lF')
  (rename News _ _ _ _ => lN')
  k_dflt (refine loop_Sm (fun m₀ i m' nx => LedR w R rest ad x ck sz of (er + (l.take i).countP isInv) pl pc bf pla nx ∧ ∃ u : Option Value, m' = fun z => if z = Str.ofString "c" then u else m₀ z) (by rfl) lF' lN' ⟨hL, mix1 _ _⟩ ?_ ?_)
  · clear lF' lN'
    intro i c t' m₁ n₁ h tk own hi hadr hoff hJ F' N'
    obtain ⟨hL', u, rfl⟩ := hJ
    have ha := hL.addr
    have hL2 := hL'.app (own := own) (fun p hp b hb => hoff p hp b (by rw [ha]; exact List.mem_append.mpr (.inl hb)))
    clear hL'
    obtain ⟨n₂, hn₂⟩ : ∃ n₂, n₁ ++ own = n₂ := ⟨_, rfl⟩
    rw [hn₂] at hL2 N'
    clear hn₂ hoff hadr
    have hcp := List.countP_le_length (p := isInv) (l := l.take i)
    rw [List.length_take] at hcp
    have hcs : List.countP isInv (List.take (i + 1) l) = List.countP isInv (List.take i l) + if isInv c then 1 else 0 := by
      rw [List.take_add_one, hi, List.countP_append]
      simp
    (try k_fold)
    k_steps
    · rw [if_pos (by assumption)] at hcs
      refine led_end (by assumption) (by assumption) (by assumption) ha.symm (fun nx hx => ⟨by rw [hcs]; exact hx, some (.str (S [c]) t'), ?_⟩)
      exact cut_if
    · rw [if_neg (by simp only [Bool.not_eq_true]; assumption)] at hcs
      refine led_end (by assumption) (by assumption) (by assumption) ha.symm (fun nx hx => ⟨by rw [hcs]; exact hx, some (.str (S [c]) t'), ?_⟩)
      exact cut_if
  · clear lF' lN'
    intro m₁ n₁ h tk hJ F' N'
    obtain ⟨hL', u, rfl⟩ := hJ
    rw [List.take_length] at hL'
    (try dsimp only)
    (try k_fold)
    k_steps
    all_goals exact hret _ _ _ _ ⟨rfl, hL'⟩ (by assumption) (by assumption)
end
theorem off_a {d lv : Str} {a b c : Option Value} {f : Str → Option Value} : ∀ y, y ≠ lv → (fun y => if y = d then a else if y = lv then b else if y = d then c else f y) y = if y = d then a else f y := fun y h => by
  by_cases hd : y = d
  · simp only [hd, if_true]
  · simp only [hd, h, if_false]
theorem off_b {d lv : Str} {a b : Option Value} {f : Str → Option Value} : ∀ y, y ≠ lv → (fun y => if y = lv then b else if y = d then a else f y) y = if y = d then a else f y := fun y h => if_neg h
theorem look_if {c : Str} {v : Value} {l : List (Str × Value)} : (fun y => List.lookup y ((c, v) :: l)) = fun y => if y = c then some v else List.lookup y ((c, v) :: l) := by
  funext y
  by_cases h : y = c
  · rw [if_pos h, h]; simp [List.lookup]
  · rw [if_neg h]
section
variable {w : World} {mean : ExcName → Option Value} {mg mb : Str → Option Value} {R : List Nat} {rest : List (Addr × Obj)} {ad : List Nat} {x : Nat} {st : St} {news : List (Addr × Obj)}
set_option maxRecDepth 100000 in
set_option maxHeartbeats 8000000 in
theorem chunk_gen (hL : LedIs w R rest ad x st news) (size : Nat) (t : Tok) (vs : List Value) (v : Value) (hv : (vs = [.ref x, .int (size : Int) t] ∧ v = .int (size : Int) t) ∨ (vs = [.ref x] ∧ v = .none ∧ size = 10240))
    (hR : R.length ≤ 1000) (hp : st.place ≤ 1000) (hc : st.chunk.length ≤ 10000) (he : st.errs ≤ 100000) (hsz : size ≤ 100000) :
    Spec w mean mg mb 113 vs 40 300 news (fun v n => v = .bool (decide (st.data R size ≠ [])) ∧ LedIs w R rest ad x (st.fetch R size) n) := by
  refine Spec.of ?_
  intro dp un gd cn cs a ccd cl outer A₀ base h₀ L m s Q E B F X N T hk hd hu hret
  obtain ⟨ck, of, er, pl, pc, bf, pla⟩ := st
  unfold LedIs at hL
  unfold St.fetch St.data St.pos at hret
  dsimp only at *
  have hbl : bf.toList.length ≤ 1 := by cases bf <;> simp
  have hPl := partOf_len R size pla
  obtain ⟨P, hP⟩ : ∃ P, partOf R size pla = P := ⟨_, rfl⟩
  obtain ⟨p, hpp⟩ : ∃ p, (ck.take ck.length).foldl adv (pl, pc) = p := ⟨_, rfl⟩
  rw [hP] at hPl
  rw [hP, hpp] at hret
  k_with_none
  k_with "tb" => (first | assumption | omega | (simp only [List.length_append, List.length_cons, List.length_nil, List.length_take, List.length_drop, List.length_dropLast, crs_len, partOf_len] at *; omega) | ((with_reducible refine Nat.le_trans (crlf_len _) ?_); tb_start) | ((with_reducible refine Nat.le_trans (split_len _) ?_); tb_start) | ((with_reducible refine Nat.le_trans (norm_len _) ?_); tb_start))
  k_with "call builtin:str.count" => (refine count4 (by decide +kernel) (by first | assumption | omega) ?_)
  k_with "call builtin:str.rfind" => (refine rfind4 (by decide +kernel) (by first | assumption | omega) ?_)
  k_with "call builtin:str.replace" => ((try dsimp only at *); k_dflt (refine repl_crlf_S (by decide +kernel) (by decide +kernel) (by k_ne) (by k_ne) (by k_ne) (by tb_start) ?_); intro _ _ _)
  k_with "call builtin:str.replace" => ((try dsimp only at *); k_dflt (refine repl_cr_S (by decide +kernel) (by decide +kernel) (by k_ne) (by k_ne) (by k_ne) (by tb_start) ?_); intro _ _ _)
  k_with "call builtin:len" => ((with_reducible show wpAny _ _ (call (Value.builtin "len") [Value.str (S _) _]) _ _ _); refine len_S (by tb_start) ?_)
  k_with "call builtin:ord" => ((with_reducible show wpAny _ _ (call (Value.builtin "ord") [Value.str (S _) _]) _ _ _); refine ord_S ?_)
  k_with "binaryOp Add str str" => ((with_reducible show wpAny _ _ (binaryOp Operator.Add (Value.str (S _) _) (Value.str (S _) _)) _ _ _); refine add_S (by tb_start) ?_; intro _ _)
  k_with "inplaceOp Add str str" => ((with_reducible show wpAny _ _ (inplaceOp Operator.Add (Value.str (S _) _) (Value.str (S _) _)) _ _ _); refine iadd_S (by tb_start) ?_; intro _ _)
  k_with "truthy str" => ((with_reducible show wpAny _ _ (truthy (Value.str (S _) _)) _ _ _); refine truthy_S (by tb_start) ?_)
  k_with "compareOp Eq str str" => ((with_reducible show wpAny _ _ (compareOp CmpOp.Eq (Value.str (S _) _) (Value.str (S _) _)) _ _ _); refine eq_S ?_)
  k_with "compareOp NotEq str str" => ((with_reducible show wpAny _ _ (compareOp CmpOp.NotEq (Value.str (S _) _) (Value.str (S _) _)) _ _ _); refine ne_S ?_)
  k_with "subscriptTail Name Slice str ref" => (k_here; (with_reducible rename Fr _ _ _ _ => F'); (with_reducible rename News _ _ _ _ => N'); k_dflt (refine drop_S (s := ⟨_, _, _, _, _⟩) F' N' (by tb_start) ?_); intro _ _ _ _ _; (try k_sweep))
  k_with "subscriptTail Name Slice str ref" => (k_here; (with_reducible rename Fr _ _ _ _ => F'); (with_reducible rename News _ _ _ _ => N'); k_dflt (refine take_S (s := ⟨_, _, _, _, _⟩) F' N' (by tb_start) ?_); intro _ _ _ _ _; (try k_sweep))
  k_with "subscriptTail Name Slice str ref" => (k_here; (with_reducible rename Fr _ _ _ _ => F'); (with_reducible rename News _ _ _ _ => N'); k_dflt (refine mid_S (s := ⟨_, _, _, _, _⟩) F' N' (by tb_start) ?_); intro _ _ _ _ _; (try k_sweep))
  k_with "subscriptTail Name Slice str ref" => (k_here; (with_reducible rename Fr _ _ _ _ => F'); (with_reducible rename News _ _ _ _ => N'); k_dflt (refine part_S (s := ⟨_, _, _, _, _⟩) F' N' (by tb_start) ?_); intro _ _ _ _ _; (try k_sweep))
  k_with "subscriptTail Name Slice str ref" => (k_here; (with_reducible rename Fr _ _ _ _ => F'); (with_reducible rename News _ _ _ _ => N'); k_dflt (refine init_S (s := ⟨_, _, _, _, _⟩) F' N' (by tb_start) ?_); intro _ _ _ _ _; (try k_sweep))
  k_with "subscriptTail Name UnaryOp str int" => (k_here; (with_reducible show wpAny _ _ (subscriptTail _ _ (Value.str (S _) _) (Value.int _ _)) _ _ _); k_dflt (first | (refine last_S (by first | assumption | (intro hz; simp only [hz, List.length_nil] at *; omega)) (by tb_start) ?_) | (refine item_S (by first | assumption | omega | k_extra "my item") (by tb_start) ?_)))
  k_with "subscriptTail Name Name str int" => (k_here; (with_reducible show wpAny _ _ (subscriptTail _ _ (Value.str (S _) _) (Value.int _ _)) _ _ _); first | (with_reducible refine item_S (by k_dflt (first | assumption | omega | k_extra "my item")) (by k_dflt tb_start) ?_) | k_dflt (refine item_Si (by omega) (by first | omega | k_extra "my item") (by tb_start) ?_))
  k_with "subscriptTail Name Constant str int" => (k_here; (with_reducible show wpAny _ _ (subscriptTail _ _ (Value.str (S _) _) (Value.int _ _)) _ _ _); first | (with_reducible refine item_S (by k_dflt (first | assumption | omega | k_extra "my item")) (by k_dflt tb_start) ?_) | k_dflt (refine item_Si (by omega) (by first | omega | k_extra "my item") (by tb_start) ?_))
  k_with "subscriptTail Name BinOp str int" => (k_here; (with_reducible show wpAny _ _ (subscriptTail _ _ (Value.str (S _) _) (Value.int _ _)) _ _ _); first | (with_reducible refine item_S (by k_dflt (first | assumption | omega | k_extra "my item")) (by k_dflt tb_start) ?_) | k_dflt (refine item_Si (by omega) (by first | omega | k_extra "my item") (by tb_start) ?_))
  k_with "subscriptTail Attribute Name str int" => (k_here; (with_reducible show wpAny _ _ (subscriptTail _ _ (Value.str (S _) _) (Value.int _ _)) _ _ _); first | (with_reducible refine item_S (by k_dflt (first | assumption | omega | k_extra "my item")) (by k_dflt tb_start) ?_) | k_dflt (refine item_Si (by omega) (by first | omega | k_extra "my item") (by tb_start) ?_))
  k_with "subscriptTail Attribute Constant str int" => (k_here; (with_reducible show wpAny _ _ (subscriptTail _ _ (Value.str (S _) _) (Value.int _ _)) _ _ _); first | (with_reducible refine item_S (by k_dflt (first | assumption | omega | k_extra "my item")) (by k_dflt tb_start) ?_) | k_dflt (refine item_Si (by omega) (by first | omega | k_extra "my item") (by tb_start) ?_))
  k_with "subscriptTail Attribute Attribute str int" => (k_here; (with_reducible show wpAny _ _ (subscriptTail _ _ (Value.str (S _) _) (Value.int _ _)) _ _ _); first | (with_reducible refine item_S (by k_dflt (first | assumption | omega | k_extra "my item")) (by k_dflt tb_start) ?_) | k_dflt (refine item_Si (by omega) (by first | omega | k_extra "my item") (by tb_start) ?_))
  k_with "truthy ref" => (k_here; k_dflt (refine' truthy_meth ?N ?q ?_; (case N => k_asm); (case q => k_mem); k_whole))
  k_with "exec For Name Name cons nil" => (k_here; (with_reducible rename Fr _ _ _ _ => lF'); k_dflt (refine' For_invVF lF' ?k1 ?k2 ?_; (case k1 => exact rfl); (case k2 => exact rfl); k_whole))
  k_with "exec For Name Subscript cons nil" => (k_here; (with_reducible rename Fr _ _ _ _ => lF'); k_dflt (refine' For_invVF lF' ?k1 ?k2 ?_; (case k1 => exact rfl); (case k2 => exact rfl); k_whole))
  k_with "all" => (refine List.forall_mem_append.mpr ⟨?a, ?b⟩; (case a => k_all); (case b => k_all))
  k_with "rel" => (simp only [List.size_toArray]; rw [PySem.sizeLine_eq]; omega)
  k_with "call builtin:list.append" => (k_here; (with_reducible show wpAny _ _ (call (Value.builtin _) [Value.ref _, _]) _ _ _); k_dflt (refine' append_K ?k1 ?k2 ?k3 ?_ ?z; (case k1 => k_asm); (case k2 => k_asm); (case k3 => k_upd); (case z => tb_rel); k_whole); intro h' F' N'; (try simp only [List.push_toArray] at N'); (try k_sweep))
  k_with "enter" => (refine' code_def ?k1 ?k2 ?k3 ?k4 ?k5 ?kA ?kF ?kK ?k6 ?k7 ?k8 ?k9 ?kB ?_ ?c2 ?c3 ?c4 ?c5; (case kA => exact rfl); (case kF => exact rfl); (case kK => assumption); (case k1 => k_asm); (case k2 => k_asm); (case k3 => k_asm); (case k4 => k_asm); (case k5 => k_asm); (case k6 => k_is); (case k7 => k_is); (case k8 => ktr_room); (case k9 => first | exact BindsTo.of_eq rfl | exact binds_K (by k_in) rfl (by k_is) rfl rfl rfl); (case c5 => decide); (case kB => exact locs rfl); (case c2 => exact rfl); (case c3 => exact rfl); (case c4 => exact rfl); k_whole; intro g' L' h' FG' F' N' B' X' T'; (try dsimp only); (try k_lift B'); (try k_fold))
  k_with "JoinP" => (dsimp only [JoinP])
  k_with "subscriptTail" => (k_here; (with_reducible show wpAny _ _ (subscriptTail _ _ (Value.str (S _) _) (Value.int _ _)) _ _ _); first | (with_reducible refine item_S (by k_dflt (first | assumption | omega | k_extra "my item")) (by k_dflt tb_start) ?_) | k_dflt (refine item_Si (by omega) (by first | omega | k_extra "my item") (by tb_start) ?_))
  k_with "compareOp Eq str str" => ((with_reducible show wpAny _ _ (compareOp CmpOp.Eq (Value.str (S _) _) (Value.str (Str.ofString _) _)) _ _ _); k_dflt (first | refine eq_lit [13] (by decide +kernel) ?_ | refine eq_lit [10] (by decide +kernel) ?_))
  k_with "compareOp NotEq str str" => ((with_reducible show wpAny _ _ (compareOp CmpOp.NotEq (Value.str (S _) _) (Value.str (Str.ofString _) _)) _ _ _); k_dflt (first | refine ne_lit [13] (by decide +kernel) ?_ | refine ne_lit [10] (by decide +kernel) ?_))
  k_with "inplaceOp Add str str" => ((with_reducible show wpAny _ _ (inplaceOp Operator.Add (Value.str (S _) _) (Value.str (Str.ofString _) _)) _ _ _); k_dflt (refine iadd_lit [10] (by decide +kernel) (by tb_start) ?_); intro _ _)
  k_with "execs cons" => (k_here; (fail_if_success (fail_if_success k_gentoks)); (refine gen_toks (by (dsimp only); omega) ?_); intro tk htk; (try dsimp only))
  k_with "execs nil" => (k_here; (fail_if_success (fail_if_success k_gentoks)); (refine gen_toks (by (dsimp only); omega) ?_); intro tk htk; (try dsimp only))
  k_with "getAttr ref" => ((with_reducible show wpAny _ _ (getAttr (Value.ref _) (Str.ofString "chunk") _) _ _ _); k_dflt (refine g_chunk (by assumption) (by k_asm) (by k_asm) ?N ?_; (case N => first | k_asm | exact News.tl (by k_asm) | exact News.tl (News.tl (by k_asm)) | exact News.tl (News.tl (News.tl (by k_asm))))); intro _)
  k_with "getAttr ref" => ((with_reducible show wpAny _ _ (getAttr (Value.ref _) (Str.ofString "chunkSize") _) _ _ _); k_dflt (refine g_size (by assumption) (by k_asm) (by k_asm) ?N ?_; (case N => first | k_asm | exact News.tl (by k_asm) | exact News.tl (News.tl (by k_asm)) | exact News.tl (News.tl (News.tl (by k_asm))))); intro _)
  k_with "getAttr ref" => ((with_reducible show wpAny _ _ (getAttr (Value.ref _) (Str.ofString "chunkOffset") _) _ _ _); k_dflt (refine g_off (by assumption) (by k_asm) (by k_asm) ?N ?_; (case N => first | k_asm | exact News.tl (by k_asm) | exact News.tl (News.tl (by k_asm)) | exact News.tl (News.tl (News.tl (by k_asm))))); intro _)
  k_with "getAttr ref" => ((with_reducible show wpAny _ _ (getAttr (Value.ref _) (Str.ofString "prevNumLines") _) _ _ _); k_dflt (refine g_pl (by assumption) (by k_asm) (by k_asm) ?N ?_; (case N => first | k_asm | exact News.tl (by k_asm) | exact News.tl (News.tl (by k_asm)) | exact News.tl (News.tl (News.tl (by k_asm))))); intro _)
  k_with "getAttr ref" => ((with_reducible show wpAny _ _ (getAttr (Value.ref _) (Str.ofString "prevNumCols") _) _ _ _); k_dflt (refine g_pc (by assumption) (by k_asm) (by k_asm) ?N ?_; (case N => first | k_asm | exact News.tl (by k_asm) | exact News.tl (News.tl (by k_asm)) | exact News.tl (News.tl (News.tl (by k_asm))))); intro _)
  k_with "getAttr ref" => ((with_reducible show wpAny _ _ (getAttr (Value.ref _) (Str.ofString "errors") _) _ _ _); k_dflt (refine g_errors (by assumption) (by k_asm) (by k_asm) ?N ?_; (case N => first | k_asm | exact News.tl (by k_asm) | exact News.tl (News.tl (by k_asm)) | exact News.tl (News.tl (News.tl (by k_asm))))); intro _ hE1)
  k_with "getAttr ref" => ((with_reducible show wpAny _ _ (getAttr (Value.ref _) (Str.ofString "dataStream") _) _ _ _); k_dflt (refine g_stream (by assumption) (by k_asm) (by k_asm) ?N ?_; (case N => first | k_asm | exact News.tl (by k_asm) | exact News.tl (News.tl (by k_asm)) | exact News.tl (News.tl (News.tl (by k_asm))))); intro _ hT1)
  k_with "getAttr ref" => ((with_reducible show wpAny _ _ (getAttr (Value.ref _) (Str.ofString "_bufferedCharacter") _) _ _ _); k_dflt (refine g_buf (by assumption) (by k_asm) (by k_asm) ?N ?_; (case N => first | k_asm | exact News.tl (by k_asm) | exact News.tl (News.tl (by k_asm)) | exact News.tl (News.tl (News.tl (by k_asm))))); intro _ hB1; (try cases hB1))
  k_with "getAttr ref" => ((with_reducible show wpAny _ _ (getAttr (Value.ref _) (Str.ofString "reportCharacterErrors") _) _ _ _); k_dflt (refine g_rep (by assumption) (by k_asm) (by k_asm) ?N ?_; (case N => first | k_asm | exact News.tl (by k_asm) | exact News.tl (News.tl (by k_asm)) | exact News.tl (News.tl (News.tl (by k_asm))))); intro _ hR1)
  k_with "getAttr ref" => ((with_reducible show wpAny _ _ (getAttr (Value.ref _) (Str.ofString "_defaultChunkSize") _) _ _ _); k_dflt (refine g_dflt (by assumption) (by k_asm) (by k_asm) ?N ?_; (case N => first | k_asm | exact News.tl (by k_asm) | exact News.tl (News.tl (by k_asm)) | exact News.tl (News.tl (News.tl (by k_asm))))); intro _)
  k_with "getAttr ref" => ((with_reducible show wpAny _ _ (getAttr (Value.ref _) (Str.ofString "text") _) _ _ _); k_dflt (refine g_text (by assumption) (by assumption) (by k_asm) (by k_asm) ?N ?_; (case N => first | k_asm | exact News.tl (by k_asm) | exact News.tl (News.tl (by k_asm)) | exact News.tl (News.tl (News.tl (by k_asm))))); intro _)
  k_with "getAttr ref" => ((with_reducible show wpAny _ _ (getAttr (Value.ref _) (Str.ofString "place") _) _ _ _); k_dflt (refine g_place (by assumption) (by assumption) (by k_asm) (by k_asm) ?N ?_; (case N => first | k_asm | exact News.tl (by k_asm) | exact News.tl (News.tl (by k_asm)) | exact News.tl (News.tl (News.tl (by k_asm))))); intro _)
  k_with "setAttr ref" => ((with_reducible show wpAny _ _ (setAttr (Value.ref _) (Str.ofString "chunk") _) _ _ _); (with_reducible rename LedR _ _ _ _ _ _ _ _ _ _ _ _ _ _ => hLo); k_dflt (refine s_chunk hLo (by k_asm) (by k_asm) ?N ?_; (case N => first | k_asm | exact News.tl (by k_asm) | exact News.tl (News.tl (by k_asm)) | exact News.tl (News.tl (News.tl (by k_asm))))); intro h' n' F' N' hL'; (try k_sweep); clear hLo)
  k_with "setAttr ref" => ((with_reducible show wpAny _ _ (setAttr (Value.ref _) (Str.ofString "chunk") (Value.str (Str.ofString "") _)) _ _ _); (with_reducible rename LedR _ _ _ _ _ _ _ _ _ _ _ _ _ _ => hLo); k_dflt (refine s_chunk0 hLo (by k_asm) (by k_asm) ?N ?_; (case N => first | k_asm | exact News.tl (by k_asm) | exact News.tl (News.tl (by k_asm)) | exact News.tl (News.tl (News.tl (by k_asm))))); intro h' n' F' N' hL'; (try k_sweep); clear hLo)
  k_with "setAttr ref" => ((with_reducible show wpAny _ _ (setAttr (Value.ref _) (Str.ofString "chunkSize") _) _ _ _); (with_reducible rename LedR _ _ _ _ _ _ _ _ _ _ _ _ _ _ => hLo); k_dflt (refine s_size hLo (by k_asm) (by k_asm) ?N ?_; (case N => first | k_asm | exact News.tl (by k_asm) | exact News.tl (News.tl (by k_asm)) | exact News.tl (News.tl (News.tl (by k_asm))))); intro h' n' F' N' hL'; (try k_sweep); clear hLo)
  k_with "setAttr ref" => ((with_reducible show wpAny _ _ (setAttr (Value.ref _) (Str.ofString "chunkOffset") _) _ _ _); (with_reducible rename LedR _ _ _ _ _ _ _ _ _ _ _ _ _ _ => hLo); k_dflt (refine s_off hLo (by k_asm) (by k_asm) ?N ?_; (case N => first | k_asm | exact News.tl (by k_asm) | exact News.tl (News.tl (by k_asm)) | exact News.tl (News.tl (News.tl (by k_asm))))); intro h' n' F' N' hL'; (try k_sweep); clear hLo)
  k_with "setAttr ref" => ((with_reducible show wpAny _ _ (setAttr (Value.ref _) (Str.ofString "prevNumLines") _) _ _ _); (with_reducible rename LedR _ _ _ _ _ _ _ _ _ _ _ _ _ _ => hLo); k_dflt (refine s_pl hLo (by k_asm) (by k_asm) ?N ?_; (case N => first | k_asm | exact News.tl (by k_asm) | exact News.tl (News.tl (by k_asm)) | exact News.tl (News.tl (News.tl (by k_asm))))); intro h' n' F' N' hL'; (try k_sweep); clear hLo)
  k_with "setAttr ref" => ((with_reducible show wpAny _ _ (setAttr (Value.ref _) (Str.ofString "prevNumCols") _) _ _ _); (with_reducible rename LedR _ _ _ _ _ _ _ _ _ _ _ _ _ _ => hLo); k_dflt (refine s_pc hLo (by k_asm) (by k_asm) ?N ?_; (case N => first | k_asm | exact News.tl (by k_asm) | exact News.tl (News.tl (by k_asm)) | exact News.tl (News.tl (News.tl (by k_asm))))); intro h' n' F' N' hL'; (try k_sweep); clear hLo)
  k_with "setAttr ref" => ((with_reducible show wpAny _ _ (setAttr (Value.ref _) (Str.ofString "_bufferedCharacter") _) _ _ _); (with_reducible rename LedR _ _ _ _ _ _ _ _ _ _ _ _ _ _ => hLo); k_dflt (refine s_buf (by first | exact BufIs.none | exact BufIs.some | assumption) hLo (by k_asm) (by k_asm) ?N ?_; (case N => first | k_asm | exact News.tl (by k_asm) | exact News.tl (News.tl (by k_asm)) | exact News.tl (News.tl (News.tl (by k_asm))))); intro h' n' F' N' hL'; (try k_sweep); clear hLo)
  k_with "setAttr ref" => ((with_reducible show wpAny _ _ (setAttr (Value.ref _) (Str.ofString "place") _) _ _ _); (with_reducible rename LedR _ _ _ _ _ _ _ _ _ _ _ _ _ _ => hLo); k_dflt (refine s_place hLo (by assumption) (by k_asm) (by k_asm) ?N ?_; (case N => first | k_asm | exact News.tl (by k_asm) | exact News.tl (News.tl (by k_asm)) | exact News.tl (News.tl (News.tl (by k_asm))))); intro h' n' F' N' hL'; (try k_sweep); clear hLo)
  k_with "getMethod ref" => ((with_reducible show wpAny _ _ (getMethod (Value.ref _) (Str.ofString "_position") _) _ _ _); k_dflt (refine m_pos_ (by assumption) (by k_asm) (by k_asm) ?N ?_; (case N => first | k_asm | exact News.tl (by k_asm) | exact News.tl (News.tl (by k_asm)) | exact News.tl (News.tl (News.tl (by k_asm))))))
  k_with "getMethod ref" => ((with_reducible show wpAny _ _ (getMethod (Value.ref _) (Str.ofString "position") _) _ _ _); k_dflt (refine m_pos (by assumption) (by k_asm) (by k_asm) ?N ?_; (case N => first | k_asm | exact News.tl (by k_asm) | exact News.tl (News.tl (by k_asm)) | exact News.tl (News.tl (News.tl (by k_asm))))))
  k_with "getMethod ref" => ((with_reducible show wpAny _ _ (getMethod (Value.ref _) (Str.ofString "char") _) _ _ _); k_dflt (refine m_char (by assumption) (by k_asm) (by k_asm) ?N ?_; (case N => first | k_asm | exact News.tl (by k_asm) | exact News.tl (News.tl (by k_asm)) | exact News.tl (News.tl (News.tl (by k_asm))))))
  k_with "getMethod ref" => ((with_reducible show wpAny _ _ (getMethod (Value.ref _) (Str.ofString "readChunk") _) _ _ _); k_dflt (refine m_chunk (by assumption) (by k_asm) (by k_asm) ?N ?_; (case N => first | k_asm | exact News.tl (by k_asm) | exact News.tl (News.tl (by k_asm)) | exact News.tl (News.tl (News.tl (by k_asm))))))
  k_with "getMethod ref" => ((with_reducible show wpAny _ _ (getMethod (Value.ref _) (Str.ofString "unget") _) _ _ _); k_dflt (refine m_unget (by assumption) (by k_asm) (by k_asm) ?N ?_; (case N => first | k_asm | exact News.tl (by k_asm) | exact News.tl (News.tl (by k_asm)) | exact News.tl (News.tl (News.tl (by k_asm))))))
  k_with "getMethod ref" => ((with_reducible show wpAny _ _ (getMethod (Value.ref _) (Str.ofString "charsUntil") _) _ _ _); k_dflt (refine m_until (by assumption) (by k_asm) (by k_asm) ?N ?_; (case N => first | k_asm | exact News.tl (by k_asm) | exact News.tl (News.tl (by k_asm)) | exact News.tl (News.tl (News.tl (by k_asm))))))
  k_with "getMethod ref" => ((with_reducible show wpAny _ _ (getMethod (Value.ref _) (Str.ofString "read") _) _ _ _); k_dflt (refine m_read (by assumption) (by assumption) (by k_asm) (by k_asm) ?N ?_; (case N => first | k_asm | exact News.tl (by k_asm) | exact News.tl (News.tl (by k_asm)) | exact News.tl (News.tl (News.tl (by k_asm))))))
  k_with "getMethod ref" => ((with_reducible show wpAny _ _ (getMethod (Value.ref _) (Str.ofString "reportCharacterErrors") _) _ _ _); k_dflt (refine m_rep (by assumption) (by k_asm) (by k_asm) ?N ?_; (case N => first | k_asm | exact News.tl (by k_asm) | exact News.tl (News.tl (by k_asm)) | exact News.tl (News.tl (News.tl (by k_asm))))); intro _ hR1)
  k_with "getMethod ref" => ((with_reducible show wpAny _ _ (getMethod (Value.ref _) (Str.ofString "append") _) _ _ _); k_dflt (refine m_append (by assumption) (by assumption) (by k_asm) (by k_asm) ?N ?_; (case N => first | k_asm | exact News.tl (by k_asm) | exact News.tl (News.tl (by k_asm)) | exact News.tl (News.tl (News.tl (by k_asm))))))
  k_with "call builtin:list.append" => ((with_reducible rename LedR _ _ _ _ _ _ _ _ _ _ _ _ _ _ => hLo); k_dflt (refine app_err hLo (by assumption) (by k_asm) (by k_asm) ?N (by omega) ?_; (case N => first | k_asm | exact News.tl (by k_asm) | exact News.tl (News.tl (by k_asm)) | exact News.tl (News.tl (News.tl (by k_asm))))); intro h' n' F' N' hL'; (try k_sweep); clear hLo)
  k_with "call ref" => ((with_reducible show wpAny _ _ (call (Value.ref 42) _) _ _ _); k_dflt ((refine' Spec.use (read_spec (by assumption) (by assumption) size _ hR hp hsz) ?B ?F ?X ?N ?T ?hk ?hd ?hu ?_); (case B => k_asm); (case F => k_asm); (case X => k_asm); (case T => k_asm); (case hk => first | exact rfl | assumption); (case N => first | k_asm | exact News.tl (by k_asm) | exact News.tl (News.tl (by k_asm)) | exact News.tl (News.tl (News.tl (by k_asm)))); (case hd => ktr_room); (case hu => ktr_units); (intro r' n' h' tk' hR' hle' F' N'); (rw [hP] at hR'); (obtain ⟨⟨t', hr'⟩, hL'⟩ := hR'); subst hr'; (try dsimp only); (try k_fold)))
  k_with "call ref" => ((with_reducible show wpAny _ _ (call (Value.ref 91) _) _ _ _); k_dflt ((refine' Spec.use (pos_spec (by assumption) ck.length _ (Nat.le_refl _) hc) ?B ?F ?X ?N ?T ?hk ?hd ?hu ?_); (case B => k_asm); (case F => k_asm); (case X => k_asm); (case T => k_asm); (case hk => first | exact rfl | assumption); (case N => first | k_asm | exact News.tl (by k_asm) | exact News.tl (News.tl (by k_asm)) | exact News.tl (News.tl (News.tl (by k_asm)))); (case hd => ktr_room); (case hu => ktr_units); (intro r' n' h' tk' hR' hle' F' N'); (rw [hpp] at hR'); (obtain ⟨D', a', b', ta', tb', hr', hlt', hn', ha', hb'⟩ := hR'); subst hr' hn' ha' hb'; (try k_lt hlt'); (try dsimp only); (try k_fold)))
  k_with "exec If" => ((with_reducible show wpAny _ _ (exec (Stmt.If (Expr.Attribute _ (Str.ofString "_bufferedCharacter") _) _ _ _) _) _ _ _); (rename Fr _ _ _ _ => F1); k_dflt (refine' join_if (n := 1) F1 (fun m' nw => (∃ t2 t0 : Tok, m' = fun y => if y = Str.ofString "data" then some (Value.str (S (bf.toList ++ P)) t2) else if y = Str.ofString "chunkSize" then some (Value.int (size : Int) t0) else List.lookup y [(Str.ofString "chunkSize", v), (Str.ofString "self", Value.ref x)]) ∧ bf.toList ++ P ≠ [] ∧ LedR w R rest ad x [] 0 0 er (p.1 : Int) (p.2 : Int) none ((pla + P.length : Nat) : Int) nw) ?ja ?jb); (case' ja => (rcases bf with _ | b) <;> ((try dsimp only [Option.toList, List.cons_append, List.nil_append] at *); (try k_fold))); (case' jb => clear F1; k_sweep; (with_reducible rename LedR _ _ _ _ _ _ _ _ _ _ _ _ _ _ => hLo); clear hLo; intro h' tk' m' nw' htk' hP' F' N'; (obtain ⟨⟨t2, t0, hm'⟩, hne', hL'⟩ := hP'); subst hm'; (obtain ⟨D, hD⟩ : ∃ D, bf.toList ++ P = D := ⟨_, rfl⟩); (have hDl : D.length ≤ 1001 := by rw [← hD, List.length_append]; omega); (have hsl := split_len D); (rw [hD] at hne' F' hret); dsimp only at *; (try k_fold)))
  k_with "exec If" => ((with_reducible show wpAny _ _ (exec (Stmt.If (Expr.Compare (Expr.Call _ _ _ _) [CmpOp.Gt] _ _) _ _ _) _) _ _ _); (rename Fr _ _ _ _ => F1); k_dflt (refine' join_if (n := 1) F1 (fun m' nw => (∃ (t2 t0 : Tok), ∀ y, y ≠ Str.ofString "lastv" → m' y = if y = Str.ofString "data" then some (Value.str (S (split D).1) t2) else if y = Str.ofString "chunkSize" then some (Value.int (size : Int) t0) else List.lookup y [(Str.ofString "chunkSize", v), (Str.ofString "self", Value.ref x)]) ∧ LedR w R rest ad x [] 0 0 er (p.1 : Int) (p.2 : Int) (split D).2 ((pla + P.length : Nat) : Int) nw) ?jc ?jd); (case' jc => (try k_fold)); (case' jd => clear F1; k_sweep; (with_reducible rename LedR _ _ _ _ _ _ _ _ _ _ _ _ _ _ => hLo); clear hLo; intro h' tk' m' nw' htk' hP' F' N'; (obtain ⟨⟨t2, t0, hm0⟩, hL'⟩ := hP'); (obtain ⟨u2, hm'⟩ := mixL hm0); subst hm'; clear hm0; (obtain ⟨⟨d1, d2⟩, hdd⟩ : ∃ dd, split D = dd := ⟨_, rfl⟩); (rw [hdd] at F' hL' hret hsl); dsimp only at *; (try k_fold)))
  k_with "exec If" => ((with_reducible show wpAny _ _ (exec (Stmt.If (Expr.Compare (Expr.Name _ _) [CmpOp.Is] _ _) _ _ _) _) _ _ _); (rename Fr _ _ _ _ => F1); (rename News _ _ _ _ => N1); k_dflt (refine' join_if (n := 0) F1 (fun m' nw => (∃ t0 : Tok, m' = fun y => if y = Str.ofString "chunkSize" then some (Value.int (size : Int) t0) else List.lookup y [(Str.ofString "chunkSize", v), (Str.ofString "self", Value.ref x)]) ∧ nw = news) ?je ?jf); (case' je => (rcases hv with ⟨h1, h2⟩ | ⟨h1, h2, h3⟩ <;> subst h2); (try k_fold)); (case' jf => clear F1 N1; intro h' tk' m' nw' htk' hP' F' N'; (obtain ⟨⟨t0, hm'⟩, hn'⟩ := hP'); subst hm'; subst hn'; (try dsimp only); (try k_fold)))
  k_with "call ref" => (k_dflt ((refine' Spec.useM ?N0 ?q0 (errs_spec (by assumption) d1 _ ?hl ?hE) ?B ?F ?X ?N ?T ?hk ?hd ?hu ?_); (case N0 => k_asm); (case q0 => assumption); (case hl => omega); (case hE => omega); (case B => k_asm); (case F => k_asm); (case X => k_asm); (case T => k_asm); (case hk => first | exact rfl | assumption); (case N => first | k_asm | exact News.tl (by k_asm) | exact News.tl (News.tl (by k_asm)) | exact News.tl (News.tl (News.tl (by k_asm)))); (case hd => ktr_room); (case hu => ktr_units); (intro r' n' h' tk' hR' hle' F' N'); (obtain ⟨hr', hL'⟩ := hR'); subst hr'; (try dsimp only); (try k_fold)))
  k_dflt (refine' code_def (binds := [(Str.ofString "self", Value.ref x), (Str.ofString "chunkSize", v)]) ?k1 ?k2 ?k3 ?k4 ?k5 ?kA ?kF ?kK ?k6 ?k7 ?k8 ?k9 ?kB ?_ ?c2 ?c3 ?c4 ?c5; (case kA => exact rfl); (case kF => exact rfl); (case kK => assumption); (case k1 => k_asm); (case k2 => k_asm); (case k3 => k_asm); (case k4 => k_asm); (case k5 => k_asm); (case k6 => k_is); (case k7 => k_is); (case k8 => ktr_room); (case k9 => rcases hv with ⟨h1, h2⟩ | ⟨h1, h2, h3⟩ <;> subst h1 <;> subst h2 <;> first | exact BindsTo.of_eq rfl | exact binds_K (by k_in) rfl (by k_is) rfl rfl rfl); (case c5 => decide); (case kB => exact locs rfl); (case c2 => exact rfl); (case c3 => exact rfl); (case c4 => exact rfl); k_whole; intro g' L' h' FG' F' N' B' X' T'; (try dsimp only); (try k_lift B'); (try k_fold))
  (rename Fr _ _ _ _ => F1)
  (with_unfolding_all change Fr _ _ _ (fun y => List.lookup y [(Str.ofString "chunkSize", v), (Str.ofString "self", Value.ref x)]) at F1)
  k_steps
  all_goals first
    | (refine hret _ _ _ _ ⟨congrArg Value.bool (decide_eq_true hne').symm, ?_⟩ (by assumption) (by assumption); assumption)
    | (have hs := split_yes (l := D) (by omega) (by omega)
       rw [hs]
       refine' join_end (by assumption) ?N1 (by omega) ⟨⟨_, t0, by first | exact off_a | exact off_b | exact fun _ _ => rfl⟩, by assumption⟩
       (case N1 => first | assumption | exact News.tl (by assumption) | exact News.tl (News.tl (by assumption)) | exact News.tl (News.tl (News.tl (by assumption)))))
    | (have hs := split_no (l := D) (by omega)
       rw [hs]
       refine' join_end (by assumption) ?N2 (by omega) ⟨⟨_, t0, by first | exact off_a | exact off_b | exact fun _ _ => rfl⟩, by assumption⟩
       (case N2 => first | assumption | exact News.tl (by assumption) | exact News.tl (News.tl (by assumption)) | exact News.tl (News.tl (News.tl (by assumption)))))
    | exact absurd (List.cons_ne_nil _ _) (by assumption)
    | (refine' join_end (by assumption) ?N3 (by omega) ⟨⟨_, t0, rfl⟩, by assumption, by assumption⟩
       (case N3 => first | assumption | exact News.tl (by assumption) | exact News.tl (News.tl (by assumption)) | exact News.tl (News.tl (News.tl (by assumption)))))
    | (refine' join_end (by assumption) ?N4 (by omega) ⟨⟨_, t0, cut_if⟩, List.cons_ne_nil _ _, by assumption⟩
       (case N4 => first | assumption | exact News.tl (by assumption) | exact News.tl (News.tl (by assumption)) | exact News.tl (News.tl (News.tl (by assumption)))))
    | (have hz : P = [] := Decidable.not_not.mp (by assumption)
       subst hz
       exact hret _ _ _ _ ⟨rfl, by assumption⟩ (by assumption) (by assumption))
    | (subst h3
       refine join_end (by assumption) (by assumption) (Nat.zero_le _) ⟨⟨_, rfl⟩, rfl⟩)
    | exact join_end (by assumption) (by assumption) (Nat.zero_le _) ⟨⟨t, look_if⟩, rfl⟩
    | trace_state
end
section
variable {w : World} {mean : ExcName → Option Value} {mg mb : Str → Option Value} {R : List Nat} {rest : List (Addr × Obj)} {ad : List Nat} {x : Nat} {st : St} {news : List (Addr × Obj)}
theorem chunk_spec (hL : LedIs w R rest ad x st news) (size : Nat) (t : Tok)
    (hR : R.length ≤ 1000) (hp : st.place ≤ 1000) (hc : st.chunk.length ≤ 10000) (he : st.errs ≤ 100000) (hsz : size ≤ 100000) :
    Spec w mean mg mb 113 [.ref x, .int (size : Int) t] 40 300 news (fun v n => v = .bool (decide (st.data R size ≠ [])) ∧ LedIs w R rest ad x (st.fetch R size) n) :=
  chunk_gen hL size t _ _ (.inl ⟨rfl, rfl⟩) hR hp hc he hsz
theorem chunk0_spec (hL : LedIs w R rest ad x st news)
    (hR : R.length ≤ 1000) (hp : st.place ≤ 1000) (hc : st.chunk.length ≤ 10000) (he : st.errs ≤ 100000) :
    Spec w mean mg mb 113 [.ref x] 40 300 news (fun v n => v = .bool (decide (st.data R 10240 ≠ [])) ∧ LedIs w R rest ad x (st.fetch R 10240) n) :=
  chunk_gen hL 10240 0 _ _ (.inr ⟨rfl, rfl, rfl⟩) hR hp hc he (by decide)
end
section
variable {w : World} {mean : ExcName → Option Value} {mg mb : Str → Option Value} {R : List Nat} {rest : List (Addr × Obj)} {ad : List Nat} {x : Nat} {st : St} {news : List (Addr × Obj)}
set_option maxRecDepth 100000 in
set_option maxHeartbeats 8000000 in
theorem char_spec (hL : LedIs w R rest ad x st news)
    (hR : R.length ≤ 1000) (hp : st.place ≤ 1000) (hc : st.chunk.length ≤ 10000) (he : st.errs ≤ 100000) :
    Spec w mean mg mb 105 [.ref x] 50 400 news (fun v n => BufIs v (st.charR R).1 ∧ LedIs w R rest ad x (st.charR R).2 n) := by
  refine Spec.of ?_
  intro dp un gd cn cs a ccd cl outer A₀ base h₀ L m s Q E B F X N T hk hd hu hret
  have hfl : (St.fetch R 10240 st).chunk.length ≤ 2000 := fetch_len hR
  have hfn : st.data R 10240 ≠ [] → 0 < (St.fetch R 10240 st).chunk.length := fun h => List.length_pos_iff.mpr (fetch_ne h)
  have hf0 : (St.fetch R 10240 st).off = 0 := rfl
  have hch := chunk0_spec (mean := mean) (mg := mg) (mb := mb) hL hR hp hc he
  unfold St.charR at hret
  generalize St.fetch R 10240 st = st2 at *
  generalize st.data R 10240 = dat at *
  obtain ⟨ck, of, er, pl, pc, bf, pla⟩ := st
  obtain ⟨ck2, of2, er2, pl2, pc2, bf2, pla2⟩ := st2
  unfold LedIs at hL
  dsimp only at *
  subst hf0
  k_with_none
  k_with "tb" => (first | assumption | omega | (simp only [List.length_append, List.length_cons, List.length_nil, List.length_take, List.length_drop, List.length_dropLast, crs_len, partOf_len] at *; omega) | ((with_reducible refine Nat.le_trans (crlf_len _) ?_); tb_start) | ((with_reducible refine Nat.le_trans (split_len _) ?_); tb_start) | ((with_reducible refine Nat.le_trans (norm_len _) ?_); tb_start))
  k_with "call builtin:str.count" => (refine count4 (by decide +kernel) (by first | assumption | omega) ?_)
  k_with "call builtin:str.rfind" => (refine rfind4 (by decide +kernel) (by first | assumption | omega) ?_)
  k_with "call builtin:str.replace" => ((try dsimp only at *); k_dflt (refine repl_crlf_S (by decide +kernel) (by decide +kernel) (by k_ne) (by k_ne) (by k_ne) (by tb_start) ?_); intro _ _ _)
  k_with "call builtin:str.replace" => ((try dsimp only at *); k_dflt (refine repl_cr_S (by decide +kernel) (by decide +kernel) (by k_ne) (by k_ne) (by k_ne) (by tb_start) ?_); intro _ _ _)
  k_with "call builtin:len" => ((with_reducible show wpAny _ _ (call (Value.builtin "len") [Value.str (S _) _]) _ _ _); refine len_S (by tb_start) ?_)
  k_with "call builtin:ord" => ((with_reducible show wpAny _ _ (call (Value.builtin "ord") [Value.str (S _) _]) _ _ _); refine ord_S ?_)
  k_with "binaryOp Add str str" => ((with_reducible show wpAny _ _ (binaryOp Operator.Add (Value.str (S _) _) (Value.str (S _) _)) _ _ _); refine add_S (by tb_start) ?_; intro _ _)
  k_with "inplaceOp Add str str" => ((with_reducible show wpAny _ _ (inplaceOp Operator.Add (Value.str (S _) _) (Value.str (S _) _)) _ _ _); refine iadd_S (by tb_start) ?_; intro _ _)
  k_with "truthy str" => ((with_reducible show wpAny _ _ (truthy (Value.str (S _) _)) _ _ _); refine truthy_S (by tb_start) ?_)
  k_with "compareOp Eq str str" => ((with_reducible show wpAny _ _ (compareOp CmpOp.Eq (Value.str (S _) _) (Value.str (S _) _)) _ _ _); refine eq_S ?_)
  k_with "compareOp NotEq str str" => ((with_reducible show wpAny _ _ (compareOp CmpOp.NotEq (Value.str (S _) _) (Value.str (S _) _)) _ _ _); refine ne_S ?_)
  k_with "subscriptTail Name Slice str ref" => (k_here; (with_reducible rename Fr _ _ _ _ => F'); (with_reducible rename News _ _ _ _ => N'); k_dflt (refine drop_S (s := ⟨_, _, _, _, _⟩) F' N' (by tb_start) ?_); intro _ _ _ _ _; (try k_sweep))
  k_with "subscriptTail Name Slice str ref" => (k_here; (with_reducible rename Fr _ _ _ _ => F'); (with_reducible rename News _ _ _ _ => N'); k_dflt (refine take_S (s := ⟨_, _, _, _, _⟩) F' N' (by tb_start) ?_); intro _ _ _ _ _; (try k_sweep))
  k_with "subscriptTail Name Slice str ref" => (k_here; (with_reducible rename Fr _ _ _ _ => F'); (with_reducible rename News _ _ _ _ => N'); k_dflt (refine mid_S (s := ⟨_, _, _, _, _⟩) F' N' (by tb_start) ?_); intro _ _ _ _ _; (try k_sweep))
  k_with "subscriptTail Name Slice str ref" => (k_here; (with_reducible rename Fr _ _ _ _ => F'); (with_reducible rename News _ _ _ _ => N'); k_dflt (refine part_S (s := ⟨_, _, _, _, _⟩) F' N' (by tb_start) ?_); intro _ _ _ _ _; (try k_sweep))
  k_with "subscriptTail Name Slice str ref" => (k_here; (with_reducible rename Fr _ _ _ _ => F'); (with_reducible rename News _ _ _ _ => N'); k_dflt (refine init_S (s := ⟨_, _, _, _, _⟩) F' N' (by tb_start) ?_); intro _ _ _ _ _; (try k_sweep))
  k_with "subscriptTail Name UnaryOp str int" => (k_here; (with_reducible show wpAny _ _ (subscriptTail _ _ (Value.str (S _) _) (Value.int _ _)) _ _ _); k_dflt (first | (refine last_S (by first | assumption | (intro hz; simp only [hz, List.length_nil] at *; omega)) (by tb_start) ?_) | (refine item_S (by first | assumption | omega | k_extra "my item") (by tb_start) ?_)))
  k_with "subscriptTail Name Name str int" => (k_here; (with_reducible show wpAny _ _ (subscriptTail _ _ (Value.str (S _) _) (Value.int _ _)) _ _ _); first | (with_reducible refine item_S (by k_dflt (first | assumption | omega | k_extra "my item")) (by k_dflt tb_start) ?_) | k_dflt (refine item_Si (by omega) (by first | omega | k_extra "my item") (by tb_start) ?_))
  k_with "subscriptTail Name Constant str int" => (k_here; (with_reducible show wpAny _ _ (subscriptTail _ _ (Value.str (S _) _) (Value.int _ _)) _ _ _); first | (with_reducible refine item_S (by k_dflt (first | assumption | omega | k_extra "my item")) (by k_dflt tb_start) ?_) | k_dflt (refine item_Si (by omega) (by first | omega | k_extra "my item") (by tb_start) ?_))
  k_with "subscriptTail Name BinOp str int" => (k_here; (with_reducible show wpAny _ _ (subscriptTail _ _ (Value.str (S _) _) (Value.int _ _)) _ _ _); first | (with_reducible refine item_S (by k_dflt (first | assumption | omega | k_extra "my item")) (by k_dflt tb_start) ?_) | k_dflt (refine item_Si (by omega) (by first | omega | k_extra "my item") (by tb_start) ?_))
  k_with "subscriptTail Attribute Name str int" => (k_here; (with_reducible show wpAny _ _ (subscriptTail _ _ (Value.str (S _) _) (Value.int _ _)) _ _ _); first | (with_reducible refine item_S (by k_dflt (first | assumption | omega | k_extra "my item")) (by k_dflt tb_start) ?_) | k_dflt (refine item_Si (by omega) (by first | omega | k_extra "my item") (by tb_start) ?_))
  k_with "subscriptTail Attribute Constant str int" => (k_here; (with_reducible show wpAny _ _ (subscriptTail _ _ (Value.str (S _) _) (Value.int _ _)) _ _ _); first | (with_reducible refine item_S (by k_dflt (first | assumption | omega | k_extra "my item")) (by k_dflt tb_start) ?_) | k_dflt (refine item_Si (by omega) (by first | omega | k_extra "my item") (by tb_start) ?_))
  k_with "subscriptTail Attribute Attribute str int" => (k_here; (with_reducible show wpAny _ _ (subscriptTail _ _ (Value.str (S _) _) (Value.int _ _)) _ _ _); first | (with_reducible refine item_S (by k_dflt (first | assumption | omega | k_extra "my item")) (by k_dflt tb_start) ?_) | k_dflt (refine item_Si (by omega) (by first | omega | k_extra "my item") (by tb_start) ?_))
  k_with "truthy ref" => (k_here; k_dflt (refine' truthy_meth ?N ?q ?_; (case N => k_asm); (case q => k_mem); k_whole))
  k_with "exec For Name Name cons nil" => (k_here; (with_reducible rename Fr _ _ _ _ => lF'); k_dflt (refine' For_invVF lF' ?k1 ?k2 ?_; (case k1 => exact rfl); (case k2 => exact rfl); k_whole))
  k_with "exec For Name Subscript cons nil" => (k_here; (with_reducible rename Fr _ _ _ _ => lF'); k_dflt (refine' For_invVF lF' ?k1 ?k2 ?_; (case k1 => exact rfl); (case k2 => exact rfl); k_whole))
  k_with "all" => (refine List.forall_mem_append.mpr ⟨?a, ?b⟩; (case a => k_all); (case b => k_all))
  k_with "rel" => (simp only [List.size_toArray]; rw [PySem.sizeLine_eq]; omega)
  k_with "call builtin:list.append" => (k_here; (with_reducible show wpAny _ _ (call (Value.builtin _) [Value.ref _, _]) _ _ _); k_dflt (refine' append_K ?k1 ?k2 ?k3 ?_ ?z; (case k1 => k_asm); (case k2 => k_asm); (case k3 => k_upd); (case z => tb_rel); k_whole); intro h' F' N'; (try simp only [List.push_toArray] at N'); (try k_sweep))
  k_with "enter" => (refine' code_def ?k1 ?k2 ?k3 ?k4 ?k5 ?kA ?kF ?kK ?k6 ?k7 ?k8 ?k9 ?kB ?_ ?c2 ?c3 ?c4 ?c5; (case kA => exact rfl); (case kF => exact rfl); (case kK => assumption); (case k1 => k_asm); (case k2 => k_asm); (case k3 => k_asm); (case k4 => k_asm); (case k5 => k_asm); (case k6 => k_is); (case k7 => k_is); (case k8 => ktr_room); (case k9 => first | exact BindsTo.of_eq rfl | exact binds_K (by k_in) rfl (by k_is) rfl rfl rfl); (case c5 => decide); (case kB => exact locs rfl); (case c2 => exact rfl); (case c3 => exact rfl); (case c4 => exact rfl); k_whole; intro g' L' h' FG' F' N' B' X' T'; (try dsimp only); (try k_lift B'); (try k_fold))
  k_with "JoinP" => (dsimp only [JoinP])
  k_with "subscriptTail" => (k_here; (with_reducible show wpAny _ _ (subscriptTail _ _ (Value.str (S _) _) (Value.int _ _)) _ _ _); first | (with_reducible refine item_S (by k_dflt (first | assumption | omega | k_extra "my item")) (by k_dflt tb_start) ?_) | k_dflt (refine item_Si (by omega) (by first | omega | k_extra "my item") (by tb_start) ?_))
  k_with "compareOp Eq str str" => ((with_reducible show wpAny _ _ (compareOp CmpOp.Eq (Value.str (S _) _) (Value.str (Str.ofString _) _)) _ _ _); k_dflt (first | refine eq_lit [13] (by decide +kernel) ?_ | refine eq_lit [10] (by decide +kernel) ?_))
  k_with "compareOp NotEq str str" => ((with_reducible show wpAny _ _ (compareOp CmpOp.NotEq (Value.str (S _) _) (Value.str (Str.ofString _) _)) _ _ _); k_dflt (first | refine ne_lit [13] (by decide +kernel) ?_ | refine ne_lit [10] (by decide +kernel) ?_))
  k_with "inplaceOp Add str str" => ((with_reducible show wpAny _ _ (inplaceOp Operator.Add (Value.str (S _) _) (Value.str (Str.ofString _) _)) _ _ _); k_dflt (refine iadd_lit [10] (by decide +kernel) (by tb_start) ?_); intro _ _)
  k_with "getAttr ref" => ((with_reducible show wpAny _ _ (getAttr (Value.ref _) (Str.ofString "chunk") _) _ _ _); k_dflt (refine g_chunk (by assumption) (by k_asm) (by k_asm) ?N ?_; (case N => first | k_asm | exact News.tl (by k_asm) | exact News.tl (News.tl (by k_asm)) | exact News.tl (News.tl (News.tl (by k_asm))))); intro _)
  k_with "getAttr ref" => ((with_reducible show wpAny _ _ (getAttr (Value.ref _) (Str.ofString "chunkSize") _) _ _ _); k_dflt (refine g_size (by assumption) (by k_asm) (by k_asm) ?N ?_; (case N => first | k_asm | exact News.tl (by k_asm) | exact News.tl (News.tl (by k_asm)) | exact News.tl (News.tl (News.tl (by k_asm))))); intro _)
  k_with "getAttr ref" => ((with_reducible show wpAny _ _ (getAttr (Value.ref _) (Str.ofString "chunkOffset") _) _ _ _); k_dflt (refine g_off (by assumption) (by k_asm) (by k_asm) ?N ?_; (case N => first | k_asm | exact News.tl (by k_asm) | exact News.tl (News.tl (by k_asm)) | exact News.tl (News.tl (News.tl (by k_asm))))); intro _)
  k_with "getAttr ref" => ((with_reducible show wpAny _ _ (getAttr (Value.ref _) (Str.ofString "prevNumLines") _) _ _ _); k_dflt (refine g_pl (by assumption) (by k_asm) (by k_asm) ?N ?_; (case N => first | k_asm | exact News.tl (by k_asm) | exact News.tl (News.tl (by k_asm)) | exact News.tl (News.tl (News.tl (by k_asm))))); intro _)
  k_with "getAttr ref" => ((with_reducible show wpAny _ _ (getAttr (Value.ref _) (Str.ofString "prevNumCols") _) _ _ _); k_dflt (refine g_pc (by assumption) (by k_asm) (by k_asm) ?N ?_; (case N => first | k_asm | exact News.tl (by k_asm) | exact News.tl (News.tl (by k_asm)) | exact News.tl (News.tl (News.tl (by k_asm))))); intro _)
  k_with "getAttr ref" => ((with_reducible show wpAny _ _ (getAttr (Value.ref _) (Str.ofString "errors") _) _ _ _); k_dflt (refine g_errors (by assumption) (by k_asm) (by k_asm) ?N ?_; (case N => first | k_asm | exact News.tl (by k_asm) | exact News.tl (News.tl (by k_asm)) | exact News.tl (News.tl (News.tl (by k_asm))))); intro _ hE1)
  k_with "getAttr ref" => ((with_reducible show wpAny _ _ (getAttr (Value.ref _) (Str.ofString "dataStream") _) _ _ _); k_dflt (refine g_stream (by assumption) (by k_asm) (by k_asm) ?N ?_; (case N => first | k_asm | exact News.tl (by k_asm) | exact News.tl (News.tl (by k_asm)) | exact News.tl (News.tl (News.tl (by k_asm))))); intro _ hT1)
  k_with "getAttr ref" => ((with_reducible show wpAny _ _ (getAttr (Value.ref _) (Str.ofString "_bufferedCharacter") _) _ _ _); k_dflt (refine g_buf (by assumption) (by k_asm) (by k_asm) ?N ?_; (case N => first | k_asm | exact News.tl (by k_asm) | exact News.tl (News.tl (by k_asm)) | exact News.tl (News.tl (News.tl (by k_asm))))); intro _ hB1; (try cases hB1))
  k_with "getAttr ref" => ((with_reducible show wpAny _ _ (getAttr (Value.ref _) (Str.ofString "reportCharacterErrors") _) _ _ _); k_dflt (refine g_rep (by assumption) (by k_asm) (by k_asm) ?N ?_; (case N => first | k_asm | exact News.tl (by k_asm) | exact News.tl (News.tl (by k_asm)) | exact News.tl (News.tl (News.tl (by k_asm))))); intro _ hR1)
  k_with "getAttr ref" => ((with_reducible show wpAny _ _ (getAttr (Value.ref _) (Str.ofString "_defaultChunkSize") _) _ _ _); k_dflt (refine g_dflt (by assumption) (by k_asm) (by k_asm) ?N ?_; (case N => first | k_asm | exact News.tl (by k_asm) | exact News.tl (News.tl (by k_asm)) | exact News.tl (News.tl (News.tl (by k_asm))))); intro _)
  k_with "getAttr ref" => ((with_reducible show wpAny _ _ (getAttr (Value.ref _) (Str.ofString "text") _) _ _ _); k_dflt (refine g_text (by assumption) (by assumption) (by k_asm) (by k_asm) ?N ?_; (case N => first | k_asm | exact News.tl (by k_asm) | exact News.tl (News.tl (by k_asm)) | exact News.tl (News.tl (News.tl (by k_asm))))); intro _)
  k_with "getAttr ref" => ((with_reducible show wpAny _ _ (getAttr (Value.ref _) (Str.ofString "place") _) _ _ _); k_dflt (refine g_place (by assumption) (by assumption) (by k_asm) (by k_asm) ?N ?_; (case N => first | k_asm | exact News.tl (by k_asm) | exact News.tl (News.tl (by k_asm)) | exact News.tl (News.tl (News.tl (by k_asm))))); intro _)
  k_with "setAttr ref" => ((with_reducible show wpAny _ _ (setAttr (Value.ref _) (Str.ofString "chunk") _) _ _ _); (with_reducible rename LedR _ _ _ _ _ _ _ _ _ _ _ _ _ _ => hLo); k_dflt (refine s_chunk hLo (by k_asm) (by k_asm) ?N ?_; (case N => first | k_asm | exact News.tl (by k_asm) | exact News.tl (News.tl (by k_asm)) | exact News.tl (News.tl (News.tl (by k_asm))))); intro h' n' F' N' hL'; (try k_sweep); clear hLo)
  k_with "setAttr ref" => ((with_reducible show wpAny _ _ (setAttr (Value.ref _) (Str.ofString "chunk") (Value.str (Str.ofString "") _)) _ _ _); (with_reducible rename LedR _ _ _ _ _ _ _ _ _ _ _ _ _ _ => hLo); k_dflt (refine s_chunk0 hLo (by k_asm) (by k_asm) ?N ?_; (case N => first | k_asm | exact News.tl (by k_asm) | exact News.tl (News.tl (by k_asm)) | exact News.tl (News.tl (News.tl (by k_asm))))); intro h' n' F' N' hL'; (try k_sweep); clear hLo)
  k_with "setAttr ref" => ((with_reducible show wpAny _ _ (setAttr (Value.ref _) (Str.ofString "chunkSize") _) _ _ _); (with_reducible rename LedR _ _ _ _ _ _ _ _ _ _ _ _ _ _ => hLo); k_dflt (refine s_size hLo (by k_asm) (by k_asm) ?N ?_; (case N => first | k_asm | exact News.tl (by k_asm) | exact News.tl (News.tl (by k_asm)) | exact News.tl (News.tl (News.tl (by k_asm))))); intro h' n' F' N' hL'; (try k_sweep); clear hLo)
  k_with "setAttr ref" => ((with_reducible show wpAny _ _ (setAttr (Value.ref _) (Str.ofString "chunkOffset") _) _ _ _); (with_reducible rename LedR _ _ _ _ _ _ _ _ _ _ _ _ _ _ => hLo); k_dflt (refine s_off hLo (by k_asm) (by k_asm) ?N ?_; (case N => first | k_asm | exact News.tl (by k_asm) | exact News.tl (News.tl (by k_asm)) | exact News.tl (News.tl (News.tl (by k_asm))))); intro h' n' F' N' hL'; (try k_sweep); clear hLo)
  k_with "setAttr ref" => ((with_reducible show wpAny _ _ (setAttr (Value.ref _) (Str.ofString "prevNumLines") _) _ _ _); (with_reducible rename LedR _ _ _ _ _ _ _ _ _ _ _ _ _ _ => hLo); k_dflt (refine s_pl hLo (by k_asm) (by k_asm) ?N ?_; (case N => first | k_asm | exact News.tl (by k_asm) | exact News.tl (News.tl (by k_asm)) | exact News.tl (News.tl (News.tl (by k_asm))))); intro h' n' F' N' hL'; (try k_sweep); clear hLo)
  k_with "setAttr ref" => ((with_reducible show wpAny _ _ (setAttr (Value.ref _) (Str.ofString "prevNumCols") _) _ _ _); (with_reducible rename LedR _ _ _ _ _ _ _ _ _ _ _ _ _ _ => hLo); k_dflt (refine s_pc hLo (by k_asm) (by k_asm) ?N ?_; (case N => first | k_asm | exact News.tl (by k_asm) | exact News.tl (News.tl (by k_asm)) | exact News.tl (News.tl (News.tl (by k_asm))))); intro h' n' F' N' hL'; (try k_sweep); clear hLo)
  k_with "setAttr ref" => ((with_reducible show wpAny _ _ (setAttr (Value.ref _) (Str.ofString "_bufferedCharacter") _) _ _ _); (with_reducible rename LedR _ _ _ _ _ _ _ _ _ _ _ _ _ _ => hLo); k_dflt (refine s_buf (by first | exact BufIs.none | exact BufIs.some | assumption) hLo (by k_asm) (by k_asm) ?N ?_; (case N => first | k_asm | exact News.tl (by k_asm) | exact News.tl (News.tl (by k_asm)) | exact News.tl (News.tl (News.tl (by k_asm))))); intro h' n' F' N' hL'; (try k_sweep); clear hLo)
  k_with "setAttr ref" => ((with_reducible show wpAny _ _ (setAttr (Value.ref _) (Str.ofString "place") _) _ _ _); (with_reducible rename LedR _ _ _ _ _ _ _ _ _ _ _ _ _ _ => hLo); k_dflt (refine s_place hLo (by assumption) (by k_asm) (by k_asm) ?N ?_; (case N => first | k_asm | exact News.tl (by k_asm) | exact News.tl (News.tl (by k_asm)) | exact News.tl (News.tl (News.tl (by k_asm))))); intro h' n' F' N' hL'; (try k_sweep); clear hLo)
  k_with "getMethod ref" => ((with_reducible show wpAny _ _ (getMethod (Value.ref _) (Str.ofString "_position") _) _ _ _); k_dflt (refine m_pos_ (by assumption) (by k_asm) (by k_asm) ?N ?_; (case N => first | k_asm | exact News.tl (by k_asm) | exact News.tl (News.tl (by k_asm)) | exact News.tl (News.tl (News.tl (by k_asm))))))
  k_with "getMethod ref" => ((with_reducible show wpAny _ _ (getMethod (Value.ref _) (Str.ofString "position") _) _ _ _); k_dflt (refine m_pos (by assumption) (by k_asm) (by k_asm) ?N ?_; (case N => first | k_asm | exact News.tl (by k_asm) | exact News.tl (News.tl (by k_asm)) | exact News.tl (News.tl (News.tl (by k_asm))))))
  k_with "getMethod ref" => ((with_reducible show wpAny _ _ (getMethod (Value.ref _) (Str.ofString "char") _) _ _ _); k_dflt (refine m_char (by assumption) (by k_asm) (by k_asm) ?N ?_; (case N => first | k_asm | exact News.tl (by k_asm) | exact News.tl (News.tl (by k_asm)) | exact News.tl (News.tl (News.tl (by k_asm))))))
  k_with "getMethod ref" => ((with_reducible show wpAny _ _ (getMethod (Value.ref _) (Str.ofString "readChunk") _) _ _ _); k_dflt (refine m_chunk (by assumption) (by k_asm) (by k_asm) ?N ?_; (case N => first | k_asm | exact News.tl (by k_asm) | exact News.tl (News.tl (by k_asm)) | exact News.tl (News.tl (News.tl (by k_asm))))))
  k_with "getMethod ref" => ((with_reducible show wpAny _ _ (getMethod (Value.ref _) (Str.ofString "unget") _) _ _ _); k_dflt (refine m_unget (by assumption) (by k_asm) (by k_asm) ?N ?_; (case N => first | k_asm | exact News.tl (by k_asm) | exact News.tl (News.tl (by k_asm)) | exact News.tl (News.tl (News.tl (by k_asm))))))
  k_with "getMethod ref" => ((with_reducible show wpAny _ _ (getMethod (Value.ref _) (Str.ofString "charsUntil") _) _ _ _); k_dflt (refine m_until (by assumption) (by k_asm) (by k_asm) ?N ?_; (case N => first | k_asm | exact News.tl (by k_asm) | exact News.tl (News.tl (by k_asm)) | exact News.tl (News.tl (News.tl (by k_asm))))))
  k_with "getMethod ref" => ((with_reducible show wpAny _ _ (getMethod (Value.ref _) (Str.ofString "read") _) _ _ _); k_dflt (refine m_read (by assumption) (by assumption) (by k_asm) (by k_asm) ?N ?_; (case N => first | k_asm | exact News.tl (by k_asm) | exact News.tl (News.tl (by k_asm)) | exact News.tl (News.tl (News.tl (by k_asm))))))
  k_with "getMethod ref" => ((with_reducible show wpAny _ _ (getMethod (Value.ref _) (Str.ofString "reportCharacterErrors") _) _ _ _); k_dflt (refine m_rep (by assumption) (by k_asm) (by k_asm) ?N ?_; (case N => first | k_asm | exact News.tl (by k_asm) | exact News.tl (News.tl (by k_asm)) | exact News.tl (News.tl (News.tl (by k_asm))))); intro _ hR1)
  k_with "getMethod ref" => ((with_reducible show wpAny _ _ (getMethod (Value.ref _) (Str.ofString "append") _) _ _ _); k_dflt (refine m_append (by assumption) (by assumption) (by k_asm) (by k_asm) ?N ?_; (case N => first | k_asm | exact News.tl (by k_asm) | exact News.tl (News.tl (by k_asm)) | exact News.tl (News.tl (News.tl (by k_asm))))))
  k_with "call builtin:list.append" => ((with_reducible rename LedR _ _ _ _ _ _ _ _ _ _ _ _ _ _ => hLo); k_dflt (refine app_err hLo (by assumption) (by k_asm) (by k_asm) ?N (by omega) ?_; (case N => first | k_asm | exact News.tl (by k_asm) | exact News.tl (News.tl (by k_asm)) | exact News.tl (News.tl (News.tl (by k_asm))))); intro h' n' F' N' hL'; (try k_sweep); clear hLo)
  k_with "call ref" => ((with_reducible show wpAny _ _ (call (Value.ref 113) _) _ _ _); k_dflt ((refine' Spec.use hch ?B ?F ?X ?N ?T ?hk ?hd ?hu ?_); (case B => k_asm); (case F => k_asm); (case X => k_asm); (case T => k_asm); (case hk => first | exact rfl | assumption); (case N => first | k_asm | exact News.tl (by k_asm) | exact News.tl (News.tl (by k_asm)) | exact News.tl (News.tl (News.tl (by k_asm)))); (case hd => ktr_room); (case hu => ktr_units); (intro r' n' h' tk' hR' hle' F' N'); (obtain ⟨hr', hL'⟩ := hR'); subst hr'; (clear hL); (unfold LedIs at hL'); (try dsimp only at *); (try k_fold)))
  k_with "my item" => exact hfn (by assumption)
  k_dflt (k_extra "enter")
  (rename Fr _ _ _ _ => F1)
  (with_unfolding_all change Fr _ _ _ (fun y => List.lookup y [(Str.ofString "self", Value.ref x)]) at F1)
  k_steps
  · rw [if_neg (by omega), if_neg (by assumption)] at hret
    exact hret _ _ _ _ ⟨BufIs.some, by assumption⟩ (by assumption) (by assumption)
  · rw [if_neg (by omega), if_pos (Decidable.not_not.mp (by assumption))] at hret
    exact hret _ _ _ _ ⟨BufIs.none, by assumption⟩ (by assumption) (by assumption)
  · rw [if_pos (by omega)] at hret
    exact hret _ _ _ _ ⟨BufIs.some, by assumption⟩ (by assumption) (by assumption)
end
section
variable {w : World} {mean : ExcName → Option Value} {mg mb : Str → Option Value} {news : List (Addr × Obj)}
set_option maxRecDepth 100000 in
set_option maxHeartbeats 8000000 in
theorem mended_spec (l : List Nat) (t : Tok) (hl : l.length ≤ 100000) (news : List (Addr × Obj)) :
    Spec w mean mg mb 170 [.str (S l) t] 5 40 news (fun v n => (∃ t', v = .str (S (norm l)) t') ∧ n = news) := by
  refine Spec.of ?_
  intro dp un gd cn cs a ccd cl outer A₀ base h₀ L m s Q E B F X N T hk hd hu hret
  k_with_none
  k_with "tb" => (first | assumption | omega | (simp only [List.length_append, List.length_cons, List.length_nil, List.length_take, List.length_drop, List.length_dropLast, crs_len, partOf_len] at *; omega) | ((with_reducible refine Nat.le_trans (crlf_len _) ?_); tb_start) | ((with_reducible refine Nat.le_trans (split_len _) ?_); tb_start) | ((with_reducible refine Nat.le_trans (norm_len _) ?_); tb_start))
  k_with "call builtin:str.count" => (refine count4 (by decide +kernel) (by first | assumption | omega) ?_)
  k_with "call builtin:str.rfind" => (refine rfind4 (by decide +kernel) (by first | assumption | omega) ?_)
  k_with "call builtin:str.replace" => ((try dsimp only at *); k_dflt (refine repl_crlf_S (by decide +kernel) (by decide +kernel) (by k_ne) (by k_ne) (by k_ne) (by tb_start) ?_); intro _ _ _)
  k_with "call builtin:str.replace" => ((try dsimp only at *); k_dflt (refine repl_cr_S (by decide +kernel) (by decide +kernel) (by k_ne) (by k_ne) (by k_ne) (by tb_start) ?_); intro _ _ _)
  k_with "call builtin:len" => ((with_reducible show wpAny _ _ (call (Value.builtin "len") [Value.str (S _) _]) _ _ _); refine len_S (by tb_start) ?_)
  k_with "call builtin:ord" => ((with_reducible show wpAny _ _ (call (Value.builtin "ord") [Value.str (S _) _]) _ _ _); refine ord_S ?_)
  k_with "binaryOp Add str str" => ((with_reducible show wpAny _ _ (binaryOp Operator.Add (Value.str (S _) _) (Value.str (S _) _)) _ _ _); refine add_S (by tb_start) ?_; intro _ _)
  k_with "inplaceOp Add str str" => ((with_reducible show wpAny _ _ (inplaceOp Operator.Add (Value.str (S _) _) (Value.str (S _) _)) _ _ _); refine iadd_S (by tb_start) ?_; intro _ _)
  k_with "truthy str" => ((with_reducible show wpAny _ _ (truthy (Value.str (S _) _)) _ _ _); refine truthy_S (by tb_start) ?_)
  k_with "compareOp Eq str str" => ((with_reducible show wpAny _ _ (compareOp CmpOp.Eq (Value.str (S _) _) (Value.str (S _) _)) _ _ _); refine eq_S ?_)
  k_with "compareOp NotEq str str" => ((with_reducible show wpAny _ _ (compareOp CmpOp.NotEq (Value.str (S _) _) (Value.str (S _) _)) _ _ _); refine ne_S ?_)
  k_with "subscriptTail Name Slice str ref" => (k_here; (with_reducible rename Fr _ _ _ _ => F'); (with_reducible rename News _ _ _ _ => N'); k_dflt (refine drop_S (s := ⟨_, _, _, _, _⟩) F' N' (by tb_start) ?_); intro _ _ _ _ _; (try k_sweep))
  k_with "subscriptTail Name Slice str ref" => (k_here; (with_reducible rename Fr _ _ _ _ => F'); (with_reducible rename News _ _ _ _ => N'); k_dflt (refine take_S (s := ⟨_, _, _, _, _⟩) F' N' (by tb_start) ?_); intro _ _ _ _ _; (try k_sweep))
  k_with "subscriptTail Name Slice str ref" => (k_here; (with_reducible rename Fr _ _ _ _ => F'); (with_reducible rename News _ _ _ _ => N'); k_dflt (refine mid_S (s := ⟨_, _, _, _, _⟩) F' N' (by tb_start) ?_); intro _ _ _ _ _; (try k_sweep))
  k_with "subscriptTail Name Slice str ref" => (k_here; (with_reducible rename Fr _ _ _ _ => F'); (with_reducible rename News _ _ _ _ => N'); k_dflt (refine part_S (s := ⟨_, _, _, _, _⟩) F' N' (by tb_start) ?_); intro _ _ _ _ _; (try k_sweep))
  k_with "subscriptTail Name Slice str ref" => (k_here; (with_reducible rename Fr _ _ _ _ => F'); (with_reducible rename News _ _ _ _ => N'); k_dflt (refine init_S (s := ⟨_, _, _, _, _⟩) F' N' (by tb_start) ?_); intro _ _ _ _ _; (try k_sweep))
  k_with "subscriptTail Name UnaryOp str int" => (k_here; (with_reducible show wpAny _ _ (subscriptTail _ _ (Value.str (S _) _) (Value.int _ _)) _ _ _); k_dflt (first | (refine last_S (by first | assumption | (intro hz; simp only [hz, List.length_nil] at *; omega)) (by tb_start) ?_) | (refine item_S (by first | assumption | omega | k_extra "my item") (by tb_start) ?_)))
  k_with "subscriptTail Name Name str int" => (k_here; (with_reducible show wpAny _ _ (subscriptTail _ _ (Value.str (S _) _) (Value.int _ _)) _ _ _); first | (with_reducible refine item_S (by k_dflt (first | assumption | omega | k_extra "my item")) (by k_dflt tb_start) ?_) | k_dflt (refine item_Si (by omega) (by first | omega | k_extra "my item") (by tb_start) ?_))
  k_with "subscriptTail Name Constant str int" => (k_here; (with_reducible show wpAny _ _ (subscriptTail _ _ (Value.str (S _) _) (Value.int _ _)) _ _ _); first | (with_reducible refine item_S (by k_dflt (first | assumption | omega | k_extra "my item")) (by k_dflt tb_start) ?_) | k_dflt (refine item_Si (by omega) (by first | omega | k_extra "my item") (by tb_start) ?_))
  k_with "subscriptTail Name BinOp str int" => (k_here; (with_reducible show wpAny _ _ (subscriptTail _ _ (Value.str (S _) _) (Value.int _ _)) _ _ _); first | (with_reducible refine item_S (by k_dflt (first | assumption | omega | k_extra "my item")) (by k_dflt tb_start) ?_) | k_dflt (refine item_Si (by omega) (by first | omega | k_extra "my item") (by tb_start) ?_))
  k_with "subscriptTail Attribute Name str int" => (k_here; (with_reducible show wpAny _ _ (subscriptTail _ _ (Value.str (S _) _) (Value.int _ _)) _ _ _); first | (with_reducible refine item_S (by k_dflt (first | assumption | omega | k_extra "my item")) (by k_dflt tb_start) ?_) | k_dflt (refine item_Si (by omega) (by first | omega | k_extra "my item") (by tb_start) ?_))
  k_with "subscriptTail Attribute Constant str int" => (k_here; (with_reducible show wpAny _ _ (subscriptTail _ _ (Value.str (S _) _) (Value.int _ _)) _ _ _); first | (with_reducible refine item_S (by k_dflt (first | assumption | omega | k_extra "my item")) (by k_dflt tb_start) ?_) | k_dflt (refine item_Si (by omega) (by first | omega | k_extra "my item") (by tb_start) ?_))
  k_with "subscriptTail Attribute Attribute str int" => (k_here; (with_reducible show wpAny _ _ (subscriptTail _ _ (Value.str (S _) _) (Value.int _ _)) _ _ _); first | (with_reducible refine item_S (by k_dflt (first | assumption | omega | k_extra "my item")) (by k_dflt tb_start) ?_) | k_dflt (refine item_Si (by omega) (by first | omega | k_extra "my item") (by tb_start) ?_))
  k_with "truthy ref" => (k_here; k_dflt (refine' truthy_meth ?N ?q ?_; (case N => k_asm); (case q => k_mem); k_whole))
  k_with "exec For Name Name cons nil" => (k_here; (with_reducible rename Fr _ _ _ _ => lF'); k_dflt (refine' For_invVF lF' ?k1 ?k2 ?_; (case k1 => exact rfl); (case k2 => exact rfl); k_whole))
  k_with "exec For Name Subscript cons nil" => (k_here; (with_reducible rename Fr _ _ _ _ => lF'); k_dflt (refine' For_invVF lF' ?k1 ?k2 ?_; (case k1 => exact rfl); (case k2 => exact rfl); k_whole))
  k_with "all" => (refine List.forall_mem_append.mpr ⟨?a, ?b⟩; (case a => k_all); (case b => k_all))
  k_with "rel" => (simp only [List.size_toArray]; rw [PySem.sizeLine_eq]; omega)
  k_with "call builtin:list.append" => (k_here; (with_reducible show wpAny _ _ (call (Value.builtin _) [Value.ref _, _]) _ _ _); k_dflt (refine' append_K ?k1 ?k2 ?k3 ?_ ?z; (case k1 => k_asm); (case k2 => k_asm); (case k3 => k_upd); (case z => tb_rel); k_whole); intro h' F' N'; (try simp only [List.push_toArray] at N'); (try k_sweep))
  k_with "enter" => (refine' code_def ?k1 ?k2 ?k3 ?k4 ?k5 ?kA ?kF ?kK ?k6 ?k7 ?k8 ?k9 ?kB ?_ ?c2 ?c3 ?c4 ?c5; (case kA => exact rfl); (case kF => exact rfl); (case kK => assumption); (case k1 => k_asm); (case k2 => k_asm); (case k3 => k_asm); (case k4 => k_asm); (case k5 => k_asm); (case k6 => k_is); (case k7 => k_is); (case k8 => ktr_room); (case k9 => first | exact BindsTo.of_eq rfl | exact binds_K (by k_in) rfl (by k_is) rfl rfl rfl); (case c5 => decide); (case kB => exact locs rfl); (case c2 => exact rfl); (case c3 => exact rfl); (case c4 => exact rfl); k_whole; intro g' L' h' FG' F' N' B' X' T'; (try dsimp only); (try k_lift B'); (try k_fold))
  k_with "JoinP" => (dsimp only [JoinP])
  k_with "subscriptTail" => (k_here; (with_reducible show wpAny _ _ (subscriptTail _ _ (Value.str (S _) _) (Value.int _ _)) _ _ _); first | (with_reducible refine item_S (by k_dflt (first | assumption | omega | k_extra "my item")) (by k_dflt tb_start) ?_) | k_dflt (refine item_Si (by omega) (by first | omega | k_extra "my item") (by tb_start) ?_))
  k_with "compareOp Eq str str" => ((with_reducible show wpAny _ _ (compareOp CmpOp.Eq (Value.str (S _) _) (Value.str (Str.ofString _) _)) _ _ _); k_dflt (first | refine eq_lit [13] (by decide +kernel) ?_ | refine eq_lit [10] (by decide +kernel) ?_))
  k_with "compareOp NotEq str str" => ((with_reducible show wpAny _ _ (compareOp CmpOp.NotEq (Value.str (S _) _) (Value.str (Str.ofString _) _)) _ _ _); k_dflt (first | refine ne_lit [13] (by decide +kernel) ?_ | refine ne_lit [10] (by decide +kernel) ?_))
  k_with "inplaceOp Add str str" => ((with_reducible show wpAny _ _ (inplaceOp Operator.Add (Value.str (S _) _) (Value.str (Str.ofString _) _)) _ _ _); k_dflt (refine iadd_lit [10] (by decide +kernel) (by tb_start) ?_); intro _ _)
  k_dflt (k_extra "enter")
  (rename Fr _ _ _ _ => F1)
  (with_unfolding_all change Fr _ _ _ (fun y => List.lookup y [(Str.ofString "raw", Value.str (S l) t)]) at F1)
  k_steps
  (rename Fr _ _ _ _ => lF')
  (rename News _ _ _ _ => lN')
  k_dflt (refine loop_Sm (fun m₀ i m' nx => nx = news ∧ ∃ (tt tb : Tok) (u : Option Value), m' = fun z => if z = Str.ofString "sign" then u else if z = Str.ofString "before" then some (.str (S (l.take i).getLast?.toList) tb) else if z = Str.ofString "text" then some (.str (S (mend none (l.take i))) tt) else m₀ z) (by rfl) lF' lN' ⟨rfl, ?st⟩ ?_ ?_)
  (case st => exact mix_set2 _ _ _ (str_empty _) (str_empty _) (fun z h1 h2 h3 => rfl))
  · clear lF' lN'
    intro i c t' m₁ n₁ h tk own hi hadr hoff hJ F' N'
    obtain ⟨rfl, tt, tb, u, rfl⟩ := hJ
    have hlm := mend_len (l.take i)
    rw [List.length_take] at hlm
    (try k_fold)
    k_steps
    all_goals (
      refine led0_end (by assumption) (by assumption) ⟨rfl, mix_set2 _ _ _ (str_is rfl ?_) (str_is rfl ?_) (fun z h1 h2 h3 => by simp only [h1, h2, h3, if_false])⟩
      · rw [last_take hi]; rfl
      · rw [mend_take hi]
        first
        | rw [mendS_a (by assumption)]
        | rw [mendS_b (by assumption) (by assumption)]
        | rw [mendS_c (by assumption) (by assumption)]
        | rw [mendS_d (by assumption) (by assumption) (by assumption), List.append_nil])
  · clear lF' lN'
    intro m₁ n₁ h tk hJ F' N'
    obtain ⟨rfl, tt, tb, u, rfl⟩ := hJ
    rw [List.take_length, mend_none] at F'
    (try dsimp only)
    (try k_fold)
    k_steps
    all_goals exact hret _ _ _ _ ⟨⟨_, rfl⟩, rfl⟩ (by assumption) (by assumption)
end
section
variable {w : World} {mean : ExcName → Option Value} {mg mb : Str → Option Value} {news : List (Addr × Obj)}
set_option maxRecDepth 100000 in
set_option maxHeartbeats 8000000 in
theorem cut_spec (l : List Nat) (start taken : Nat) (t t1 t2 : Tok) (hl : l.length ≤ 100000) (h1 : 0 < taken) (h2 : taken ≤ l.length) (news : List (Addr × Obj)) :
    Spec w mean mg mb 177 [.str (S l) t, .int (start : Int) t1, .int (taken : Int) t2] 5 40 news (fun v n => (∃ t', v = .int (cutR l start taken : Nat) t') ∧ n = news) := by
  obtain ⟨k, rfl⟩ : ∃ k, taken = k + 1 := ⟨taken - 1, by omega⟩
  refine Spec.of ?_
  intro dp un gd cn cs a ccd cl outer A₀ base h₀ L m s Q E B F X N T hk hd hu hret
  k_with_none
  k_with "tb" => (first | assumption | omega | (simp only [List.length_append, List.length_cons, List.length_nil, List.length_take, List.length_drop, List.length_dropLast, crs_len, partOf_len] at *; omega) | ((with_reducible refine Nat.le_trans (crlf_len _) ?_); tb_start) | ((with_reducible refine Nat.le_trans (split_len _) ?_); tb_start) | ((with_reducible refine Nat.le_trans (norm_len _) ?_); tb_start))
  k_with "call builtin:str.count" => (refine count4 (by decide +kernel) (by first | assumption | omega) ?_)
  k_with "call builtin:str.rfind" => (refine rfind4 (by decide +kernel) (by first | assumption | omega) ?_)
  k_with "call builtin:str.replace" => ((try dsimp only at *); k_dflt (refine repl_crlf_S (by decide +kernel) (by decide +kernel) (by k_ne) (by k_ne) (by k_ne) (by tb_start) ?_); intro _ _ _)
  k_with "call builtin:str.replace" => ((try dsimp only at *); k_dflt (refine repl_cr_S (by decide +kernel) (by decide +kernel) (by k_ne) (by k_ne) (by k_ne) (by tb_start) ?_); intro _ _ _)
  k_with "call builtin:len" => ((with_reducible show wpAny _ _ (call (Value.builtin "len") [Value.str (S _) _]) _ _ _); refine len_S (by tb_start) ?_)
  k_with "call builtin:ord" => ((with_reducible show wpAny _ _ (call (Value.builtin "ord") [Value.str (S _) _]) _ _ _); refine ord_S ?_)
  k_with "binaryOp Add str str" => ((with_reducible show wpAny _ _ (binaryOp Operator.Add (Value.str (S _) _) (Value.str (S _) _)) _ _ _); refine add_S (by tb_start) ?_; intro _ _)
  k_with "inplaceOp Add str str" => ((with_reducible show wpAny _ _ (inplaceOp Operator.Add (Value.str (S _) _) (Value.str (S _) _)) _ _ _); refine iadd_S (by tb_start) ?_; intro _ _)
  k_with "truthy str" => ((with_reducible show wpAny _ _ (truthy (Value.str (S _) _)) _ _ _); refine truthy_S (by tb_start) ?_)
  k_with "compareOp Eq str str" => ((with_reducible show wpAny _ _ (compareOp CmpOp.Eq (Value.str (S _) _) (Value.str (S _) _)) _ _ _); refine eq_S ?_)
  k_with "compareOp NotEq str str" => ((with_reducible show wpAny _ _ (compareOp CmpOp.NotEq (Value.str (S _) _) (Value.str (S _) _)) _ _ _); refine ne_S ?_)
  k_with "subscriptTail Name Slice str ref" => (k_here; (with_reducible rename Fr _ _ _ _ => F'); (with_reducible rename News _ _ _ _ => N'); k_dflt (refine drop_S (s := ⟨_, _, _, _, _⟩) F' N' (by tb_start) ?_); intro _ _ _ _ _; (try k_sweep))
  k_with "subscriptTail Name Slice str ref" => (k_here; (with_reducible rename Fr _ _ _ _ => F'); (with_reducible rename News _ _ _ _ => N'); k_dflt (refine take_S (s := ⟨_, _, _, _, _⟩) F' N' (by tb_start) ?_); intro _ _ _ _ _; (try k_sweep))
  k_with "subscriptTail Name Slice str ref" => (k_here; (with_reducible rename Fr _ _ _ _ => F'); (with_reducible rename News _ _ _ _ => N'); k_dflt (refine mid_S (s := ⟨_, _, _, _, _⟩) F' N' (by tb_start) ?_); intro _ _ _ _ _; (try k_sweep))
  k_with "subscriptTail Name Slice str ref" => (k_here; (with_reducible rename Fr _ _ _ _ => F'); (with_reducible rename News _ _ _ _ => N'); k_dflt (refine part_S (s := ⟨_, _, _, _, _⟩) F' N' (by tb_start) ?_); intro _ _ _ _ _; (try k_sweep))
  k_with "subscriptTail Name Slice str ref" => (k_here; (with_reducible rename Fr _ _ _ _ => F'); (with_reducible rename News _ _ _ _ => N'); k_dflt (refine init_S (s := ⟨_, _, _, _, _⟩) F' N' (by tb_start) ?_); intro _ _ _ _ _; (try k_sweep))
  k_with "subscriptTail Name UnaryOp str int" => (k_here; (with_reducible show wpAny _ _ (subscriptTail _ _ (Value.str (S _) _) (Value.int _ _)) _ _ _); k_dflt (first | (refine last_S (by first | assumption | (intro hz; simp only [hz, List.length_nil] at *; omega)) (by tb_start) ?_) | (refine item_S (by first | assumption | omega | k_extra "my item") (by tb_start) ?_)))
  k_with "subscriptTail Name Name str int" => (k_here; (with_reducible show wpAny _ _ (subscriptTail _ _ (Value.str (S _) _) (Value.int _ _)) _ _ _); first | (with_reducible refine item_S (by k_dflt (first | assumption | omega | k_extra "my item")) (by k_dflt tb_start) ?_) | k_dflt (refine item_Si (by omega) (by first | omega | k_extra "my item") (by tb_start) ?_))
  k_with "subscriptTail Name Constant str int" => (k_here; (with_reducible show wpAny _ _ (subscriptTail _ _ (Value.str (S _) _) (Value.int _ _)) _ _ _); first | (with_reducible refine item_S (by k_dflt (first | assumption | omega | k_extra "my item")) (by k_dflt tb_start) ?_) | k_dflt (refine item_Si (by omega) (by first | omega | k_extra "my item") (by tb_start) ?_))
  k_with "subscriptTail Name BinOp str int" => (k_here; (with_reducible show wpAny _ _ (subscriptTail _ _ (Value.str (S _) _) (Value.int _ _)) _ _ _); first | (with_reducible refine item_S (by k_dflt (first | assumption | omega | k_extra "my item")) (by k_dflt tb_start) ?_) | k_dflt (refine item_Si (by omega) (by first | omega | k_extra "my item") (by tb_start) ?_))
  k_with "subscriptTail Attribute Name str int" => (k_here; (with_reducible show wpAny _ _ (subscriptTail _ _ (Value.str (S _) _) (Value.int _ _)) _ _ _); first | (with_reducible refine item_S (by k_dflt (first | assumption | omega | k_extra "my item")) (by k_dflt tb_start) ?_) | k_dflt (refine item_Si (by omega) (by first | omega | k_extra "my item") (by tb_start) ?_))
  k_with "subscriptTail Attribute Constant str int" => (k_here; (with_reducible show wpAny _ _ (subscriptTail _ _ (Value.str (S _) _) (Value.int _ _)) _ _ _); first | (with_reducible refine item_S (by k_dflt (first | assumption | omega | k_extra "my item")) (by k_dflt tb_start) ?_) | k_dflt (refine item_Si (by omega) (by first | omega | k_extra "my item") (by tb_start) ?_))
  k_with "subscriptTail Attribute Attribute str int" => (k_here; (with_reducible show wpAny _ _ (subscriptTail _ _ (Value.str (S _) _) (Value.int _ _)) _ _ _); first | (with_reducible refine item_S (by k_dflt (first | assumption | omega | k_extra "my item")) (by k_dflt tb_start) ?_) | k_dflt (refine item_Si (by omega) (by first | omega | k_extra "my item") (by tb_start) ?_))
  k_with "truthy ref" => (k_here; k_dflt (refine' truthy_meth ?N ?q ?_; (case N => k_asm); (case q => k_mem); k_whole))
  k_with "exec For Name Name cons nil" => (k_here; (with_reducible rename Fr _ _ _ _ => lF'); k_dflt (refine' For_invVF lF' ?k1 ?k2 ?_; (case k1 => exact rfl); (case k2 => exact rfl); k_whole))
  k_with "exec For Name Subscript cons nil" => (k_here; (with_reducible rename Fr _ _ _ _ => lF'); k_dflt (refine' For_invVF lF' ?k1 ?k2 ?_; (case k1 => exact rfl); (case k2 => exact rfl); k_whole))
  k_with "all" => (refine List.forall_mem_append.mpr ⟨?a, ?b⟩; (case a => k_all); (case b => k_all))
  k_with "rel" => (simp only [List.size_toArray]; rw [PySem.sizeLine_eq]; omega)
  k_with "call builtin:list.append" => (k_here; (with_reducible show wpAny _ _ (call (Value.builtin _) [Value.ref _, _]) _ _ _); k_dflt (refine' append_K ?k1 ?k2 ?k3 ?_ ?z; (case k1 => k_asm); (case k2 => k_asm); (case k3 => k_upd); (case z => tb_rel); k_whole); intro h' F' N'; (try simp only [List.push_toArray] at N'); (try k_sweep))
  k_with "enter" => (refine' code_def ?k1 ?k2 ?k3 ?k4 ?k5 ?kA ?kF ?kK ?k6 ?k7 ?k8 ?k9 ?kB ?_ ?c2 ?c3 ?c4 ?c5; (case kA => exact rfl); (case kF => exact rfl); (case kK => assumption); (case k1 => k_asm); (case k2 => k_asm); (case k3 => k_asm); (case k4 => k_asm); (case k5 => k_asm); (case k6 => k_is); (case k7 => k_is); (case k8 => ktr_room); (case k9 => first | exact BindsTo.of_eq rfl | exact binds_K (by k_in) rfl (by k_is) rfl rfl rfl); (case c5 => decide); (case kB => exact locs rfl); (case c2 => exact rfl); (case c3 => exact rfl); (case c4 => exact rfl); k_whole; intro g' L' h' FG' F' N' B' X' T'; (try dsimp only); (try k_lift B'); (try k_fold))
  k_with "JoinP" => (dsimp only [JoinP])
  k_with "subscriptTail" => (k_here; (with_reducible show wpAny _ _ (subscriptTail _ _ (Value.str (S _) _) (Value.int _ _)) _ _ _); first | (with_reducible refine item_S (by k_dflt (first | assumption | omega | k_extra "my item")) (by k_dflt tb_start) ?_) | k_dflt (refine item_Si (by omega) (by first | omega | k_extra "my item") (by tb_start) ?_))
  k_with "compareOp Eq str str" => ((with_reducible show wpAny _ _ (compareOp CmpOp.Eq (Value.str (S _) _) (Value.str (Str.ofString _) _)) _ _ _); k_dflt (first | refine eq_lit [13] (by decide +kernel) ?_ | refine eq_lit [10] (by decide +kernel) ?_))
  k_with "compareOp NotEq str str" => ((with_reducible show wpAny _ _ (compareOp CmpOp.NotEq (Value.str (S _) _) (Value.str (Str.ofString _) _)) _ _ _); k_dflt (first | refine ne_lit [13] (by decide +kernel) ?_ | refine ne_lit [10] (by decide +kernel) ?_))
  k_with "inplaceOp Add str str" => ((with_reducible show wpAny _ _ (inplaceOp Operator.Add (Value.str (S _) _) (Value.str (Str.ofString _) _)) _ _ _); k_dflt (refine iadd_lit [10] (by decide +kernel) (by tb_start) ?_); intro _ _)
  k_dflt (k_extra "enter")
  (rename Fr _ _ _ _ => F1)
  (with_unfolding_all change Fr _ _ _ (fun y => List.lookup y [(Str.ofString "taken", Value.int ((k + 1 : Nat) : Int) t2), (Str.ofString "start", Value.int (start : Int) t1), (Str.ofString "raw", Value.str (S l) t)]) at F1)
  k_steps
  · exact hret _ _ _ _ ⟨⟨_, congrArg (Value.int · _) (cut_a (by assumption) (by assumption))⟩, rfl⟩ (by assumption) (by assumption)
  · exact hret _ _ _ _ ⟨⟨_, congrArg (Value.int · _) (cut_b (by assumption))⟩, rfl⟩ (by assumption) (by assumption)
  · exact hret _ _ _ _ ⟨⟨_, congrArg (Value.int · _) (cut_c (by assumption))⟩, rfl⟩ (by assumption) (by assumption)
end
section
variable {w : World} {mean : ExcName → Option Value} {mg mb : Str → Option Value} {news : List (Addr × Obj)}
set_option maxRecDepth 100000 in
set_option maxHeartbeats 8000000 in
theorem code_spec (n : Int) (t : Tok) (news : List (Addr × Obj)) :
    Spec w mean mg mb 156 [.int n t] 10 90 news (fun v nw => (∃ t' : Tok, v = .int ((code n : Nat) : Int) t') ∧ nw = news) := by
  refine Spec.of ?_
  intro dp un gd cn cs a ccd cl outer A₀ base h₀ L m s Q E B F X N T hk hd hu hret
  rw [code_eq] at hret
  unfold codeI at hret
  k_with_none
  k_with "tb" => (first | assumption | omega | (simp only [List.length_append, List.length_cons, List.length_nil, List.length_take, List.length_drop, List.length_dropLast, crs_len, partOf_len] at *; omega) | ((with_reducible refine Nat.le_trans (crlf_len _) ?_); tb_start) | ((with_reducible refine Nat.le_trans (split_len _) ?_); tb_start) | ((with_reducible refine Nat.le_trans (norm_len _) ?_); tb_start))
  k_with "call builtin:str.count" => (refine count4 (by decide +kernel) (by first | assumption | omega) ?_)
  k_with "call builtin:str.rfind" => (refine rfind4 (by decide +kernel) (by first | assumption | omega) ?_)
  k_with "call builtin:str.replace" => ((try dsimp only at *); k_dflt (refine repl_crlf_S (by decide +kernel) (by decide +kernel) (by k_ne) (by k_ne) (by k_ne) (by tb_start) ?_); intro _ _ _)
  k_with "call builtin:str.replace" => ((try dsimp only at *); k_dflt (refine repl_cr_S (by decide +kernel) (by decide +kernel) (by k_ne) (by k_ne) (by k_ne) (by tb_start) ?_); intro _ _ _)
  k_with "call builtin:len" => ((with_reducible show wpAny _ _ (call (Value.builtin "len") [Value.str (S _) _]) _ _ _); refine len_S (by tb_start) ?_)
  k_with "call builtin:ord" => ((with_reducible show wpAny _ _ (call (Value.builtin "ord") [Value.str (S _) _]) _ _ _); refine ord_S ?_)
  k_with "binaryOp Add str str" => ((with_reducible show wpAny _ _ (binaryOp Operator.Add (Value.str (S _) _) (Value.str (S _) _)) _ _ _); refine add_S (by tb_start) ?_; intro _ _)
  k_with "inplaceOp Add str str" => ((with_reducible show wpAny _ _ (inplaceOp Operator.Add (Value.str (S _) _) (Value.str (S _) _)) _ _ _); refine iadd_S (by tb_start) ?_; intro _ _)
  k_with "truthy str" => ((with_reducible show wpAny _ _ (truthy (Value.str (S _) _)) _ _ _); refine truthy_S (by tb_start) ?_)
  k_with "compareOp Eq str str" => ((with_reducible show wpAny _ _ (compareOp CmpOp.Eq (Value.str (S _) _) (Value.str (S _) _)) _ _ _); refine eq_S ?_)
  k_with "compareOp NotEq str str" => ((with_reducible show wpAny _ _ (compareOp CmpOp.NotEq (Value.str (S _) _) (Value.str (S _) _)) _ _ _); refine ne_S ?_)
  k_with "subscriptTail Name Slice str ref" => (k_here; (with_reducible rename Fr _ _ _ _ => F'); (with_reducible rename News _ _ _ _ => N'); k_dflt (refine drop_S (s := ⟨_, _, _, _, _⟩) F' N' (by tb_start) ?_); intro _ _ _ _ _; (try k_sweep))
  k_with "subscriptTail Name Slice str ref" => (k_here; (with_reducible rename Fr _ _ _ _ => F'); (with_reducible rename News _ _ _ _ => N'); k_dflt (refine take_S (s := ⟨_, _, _, _, _⟩) F' N' (by tb_start) ?_); intro _ _ _ _ _; (try k_sweep))
  k_with "subscriptTail Name Slice str ref" => (k_here; (with_reducible rename Fr _ _ _ _ => F'); (with_reducible rename News _ _ _ _ => N'); k_dflt (refine mid_S (s := ⟨_, _, _, _, _⟩) F' N' (by tb_start) ?_); intro _ _ _ _ _; (try k_sweep))
  k_with "subscriptTail Name Slice str ref" => (k_here; (with_reducible rename Fr _ _ _ _ => F'); (with_reducible rename News _ _ _ _ => N'); k_dflt (refine part_S (s := ⟨_, _, _, _, _⟩) F' N' (by tb_start) ?_); intro _ _ _ _ _; (try k_sweep))
  k_with "subscriptTail Name Slice str ref" => (k_here; (with_reducible rename Fr _ _ _ _ => F'); (with_reducible rename News _ _ _ _ => N'); k_dflt (refine init_S (s := ⟨_, _, _, _, _⟩) F' N' (by tb_start) ?_); intro _ _ _ _ _; (try k_sweep))
  k_with "subscriptTail Name UnaryOp str int" => (k_here; (with_reducible show wpAny _ _ (subscriptTail _ _ (Value.str (S _) _) (Value.int _ _)) _ _ _); k_dflt (first | (refine last_S (by first | assumption | (intro hz; simp only [hz, List.length_nil] at *; omega)) (by tb_start) ?_) | (refine item_S (by first | assumption | omega | k_extra "my item") (by tb_start) ?_)))
  k_with "subscriptTail Name Name str int" => (k_here; (with_reducible show wpAny _ _ (subscriptTail _ _ (Value.str (S _) _) (Value.int _ _)) _ _ _); first | (with_reducible refine item_S (by k_dflt (first | assumption | omega | k_extra "my item")) (by k_dflt tb_start) ?_) | k_dflt (refine item_Si (by omega) (by first | omega | k_extra "my item") (by tb_start) ?_))
  k_with "subscriptTail Name Constant str int" => (k_here; (with_reducible show wpAny _ _ (subscriptTail _ _ (Value.str (S _) _) (Value.int _ _)) _ _ _); first | (with_reducible refine item_S (by k_dflt (first | assumption | omega | k_extra "my item")) (by k_dflt tb_start) ?_) | k_dflt (refine item_Si (by omega) (by first | omega | k_extra "my item") (by tb_start) ?_))
  k_with "subscriptTail Name BinOp str int" => (k_here; (with_reducible show wpAny _ _ (subscriptTail _ _ (Value.str (S _) _) (Value.int _ _)) _ _ _); first | (with_reducible refine item_S (by k_dflt (first | assumption | omega | k_extra "my item")) (by k_dflt tb_start) ?_) | k_dflt (refine item_Si (by omega) (by first | omega | k_extra "my item") (by tb_start) ?_))
  k_with "subscriptTail Attribute Name str int" => (k_here; (with_reducible show wpAny _ _ (subscriptTail _ _ (Value.str (S _) _) (Value.int _ _)) _ _ _); first | (with_reducible refine item_S (by k_dflt (first | assumption | omega | k_extra "my item")) (by k_dflt tb_start) ?_) | k_dflt (refine item_Si (by omega) (by first | omega | k_extra "my item") (by tb_start) ?_))
  k_with "subscriptTail Attribute Constant str int" => (k_here; (with_reducible show wpAny _ _ (subscriptTail _ _ (Value.str (S _) _) (Value.int _ _)) _ _ _); first | (with_reducible refine item_S (by k_dflt (first | assumption | omega | k_extra "my item")) (by k_dflt tb_start) ?_) | k_dflt (refine item_Si (by omega) (by first | omega | k_extra "my item") (by tb_start) ?_))
  k_with "subscriptTail Attribute Attribute str int" => (k_here; (with_reducible show wpAny _ _ (subscriptTail _ _ (Value.str (S _) _) (Value.int _ _)) _ _ _); first | (with_reducible refine item_S (by k_dflt (first | assumption | omega | k_extra "my item")) (by k_dflt tb_start) ?_) | k_dflt (refine item_Si (by omega) (by first | omega | k_extra "my item") (by tb_start) ?_))
  k_with "truthy ref" => (k_here; k_dflt (refine' truthy_meth ?N ?q ?_; (case N => k_asm); (case q => k_mem); k_whole))
  k_with "exec For Name Name cons nil" => (k_here; (with_reducible rename Fr _ _ _ _ => lF'); k_dflt (refine' For_invVF lF' ?k1 ?k2 ?_; (case k1 => exact rfl); (case k2 => exact rfl); k_whole))
  k_with "exec For Name Subscript cons nil" => (k_here; (with_reducible rename Fr _ _ _ _ => lF'); k_dflt (refine' For_invVF lF' ?k1 ?k2 ?_; (case k1 => exact rfl); (case k2 => exact rfl); k_whole))
  k_with "all" => (refine List.forall_mem_append.mpr ⟨?a, ?b⟩; (case a => k_all); (case b => k_all))
  k_with "rel" => (simp only [List.size_toArray]; rw [PySem.sizeLine_eq]; omega)
  k_with "call builtin:list.append" => (k_here; (with_reducible show wpAny _ _ (call (Value.builtin _) [Value.ref _, _]) _ _ _); k_dflt (refine' append_K ?k1 ?k2 ?k3 ?_ ?z; (case k1 => k_asm); (case k2 => k_asm); (case k3 => k_upd); (case z => tb_rel); k_whole); intro h' F' N'; (try simp only [List.push_toArray] at N'); (try k_sweep))
  k_with "enter" => (refine' code_def ?k1 ?k2 ?k3 ?k4 ?k5 ?kA ?kF ?kK ?k6 ?k7 ?k8 ?k9 ?kB ?_ ?c2 ?c3 ?c4 ?c5; (case kA => exact rfl); (case kF => exact rfl); (case kK => assumption); (case k1 => k_asm); (case k2 => k_asm); (case k3 => k_asm); (case k4 => k_asm); (case k5 => k_asm); (case k6 => k_is); (case k7 => k_is); (case k8 => ktr_room); (case k9 => first | exact BindsTo.of_eq rfl | exact binds_K (by k_in) rfl (by k_is) rfl rfl rfl); (case c5 => decide); (case kB => exact locs rfl); (case c2 => exact rfl); (case c3 => exact rfl); (case c4 => exact rfl); k_whole; intro g' L' h' FG' F' N' B' X' T'; (try dsimp only); (try k_lift B'); (try k_fold))
  k_with "JoinP" => (dsimp only [JoinP])
  k_with "subscriptTail" => (k_here; (with_reducible show wpAny _ _ (subscriptTail _ _ (Value.str (S _) _) (Value.int _ _)) _ _ _); first | (with_reducible refine item_S (by k_dflt (first | assumption | omega | k_extra "my item")) (by k_dflt tb_start) ?_) | k_dflt (refine item_Si (by omega) (by first | omega | k_extra "my item") (by tb_start) ?_))
  k_with "compareOp Eq str str" => ((with_reducible show wpAny _ _ (compareOp CmpOp.Eq (Value.str (S _) _) (Value.str (Str.ofString _) _)) _ _ _); k_dflt (first | refine eq_lit [13] (by decide +kernel) ?_ | refine eq_lit [10] (by decide +kernel) ?_))
  k_with "compareOp NotEq str str" => ((with_reducible show wpAny _ _ (compareOp CmpOp.NotEq (Value.str (S _) _) (Value.str (Str.ofString _) _)) _ _ _); k_dflt (first | refine ne_lit [13] (by decide +kernel) ?_ | refine ne_lit [10] (by decide +kernel) ?_))
  k_with "inplaceOp Add str str" => ((with_reducible show wpAny _ _ (inplaceOp Operator.Add (Value.str (S _) _) (Value.str (Str.ofString _) _)) _ _ _); k_dflt (refine iadd_lit [10] (by decide +kernel) (by tb_start) ?_); intro _ _)
  k_dflt (k_extra "enter")
  (rename Fr _ _ _ _ => F1)
  (with_unfolding_all change Fr _ _ _ (fun y => List.lookup y [(Str.ofString "n", Value.int n t)]) at F1)
  k_steps
  · rw [if_pos (by assumption)] at hret
    exact hret _ _ _ _ ⟨⟨_, rfl⟩, rfl⟩ (by assumption) (by first | assumption | exact News.tl (by assumption))
  · rw [if_neg (by assumption), if_pos ⟨by assumption, by assumption⟩] at hret
    exact hret _ _ _ _ ⟨⟨_, rfl⟩, rfl⟩ (by assumption) (by first | assumption | exact News.tl (by assumption))
  all_goals (
    rw [if_neg (by assumption), if_neg (by omega)] at hret
    exact hret _ _ _ _ ⟨⟨_, rfl⟩, rfl⟩ (by assumption) (by first | assumption | exact News.tl (by assumption)))
set_option maxRecDepth 100000 in
set_option maxHeartbeats 8000000 in
theorem bad3_spec (c : Nat) (t : Tok) (hs : ¬ (55296 ≤ c ∧ c ≤ 57343)) (news : List (Addr × Obj)) :
    Spec w mean mg mb 163 [.int (c : Int) t] 10 90 news (fun v nw => v = .bool (isInv c) ∧ nw = news) := by
  refine Spec.of ?_
  intro dp un gd cn cs a ccd cl outer A₀ base h₀ L m s Q E B F X N T hk hd hu hret
  k_with_none
  k_with "tb" => (first | assumption | omega | (simp only [List.length_append, List.length_cons, List.length_nil, List.length_take, List.length_drop, List.length_dropLast, crs_len, partOf_len] at *; omega) | ((with_reducible refine Nat.le_trans (crlf_len _) ?_); tb_start) | ((with_reducible refine Nat.le_trans (split_len _) ?_); tb_start) | ((with_reducible refine Nat.le_trans (norm_len _) ?_); tb_start))
  k_with "call builtin:str.count" => (refine count4 (by decide +kernel) (by first | assumption | omega) ?_)
  k_with "call builtin:str.rfind" => (refine rfind4 (by decide +kernel) (by first | assumption | omega) ?_)
  k_with "call builtin:str.replace" => ((try dsimp only at *); k_dflt (refine repl_crlf_S (by decide +kernel) (by decide +kernel) (by k_ne) (by k_ne) (by k_ne) (by tb_start) ?_); intro _ _ _)
  k_with "call builtin:str.replace" => ((try dsimp only at *); k_dflt (refine repl_cr_S (by decide +kernel) (by decide +kernel) (by k_ne) (by k_ne) (by k_ne) (by tb_start) ?_); intro _ _ _)
  k_with "call builtin:len" => ((with_reducible show wpAny _ _ (call (Value.builtin "len") [Value.str (S _) _]) _ _ _); refine len_S (by tb_start) ?_)
  k_with "call builtin:ord" => ((with_reducible show wpAny _ _ (call (Value.builtin "ord") [Value.str (S _) _]) _ _ _); refine ord_S ?_)
  k_with "binaryOp Add str str" => ((with_reducible show wpAny _ _ (binaryOp Operator.Add (Value.str (S _) _) (Value.str (S _) _)) _ _ _); refine add_S (by tb_start) ?_; intro _ _)
  k_with "inplaceOp Add str str" => ((with_reducible show wpAny _ _ (inplaceOp Operator.Add (Value.str (S _) _) (Value.str (S _) _)) _ _ _); refine iadd_S (by tb_start) ?_; intro _ _)
  k_with "truthy str" => ((with_reducible show wpAny _ _ (truthy (Value.str (S _) _)) _ _ _); refine truthy_S (by tb_start) ?_)
  k_with "compareOp Eq str str" => ((with_reducible show wpAny _ _ (compareOp CmpOp.Eq (Value.str (S _) _) (Value.str (S _) _)) _ _ _); refine eq_S ?_)
  k_with "compareOp NotEq str str" => ((with_reducible show wpAny _ _ (compareOp CmpOp.NotEq (Value.str (S _) _) (Value.str (S _) _)) _ _ _); refine ne_S ?_)
  k_with "subscriptTail Name Slice str ref" => (k_here; (with_reducible rename Fr _ _ _ _ => F'); (with_reducible rename News _ _ _ _ => N'); k_dflt (refine drop_S (s := ⟨_, _, _, _, _⟩) F' N' (by tb_start) ?_); intro _ _ _ _ _; (try k_sweep))
  k_with "subscriptTail Name Slice str ref" => (k_here; (with_reducible rename Fr _ _ _ _ => F'); (with_reducible rename News _ _ _ _ => N'); k_dflt (refine take_S (s := ⟨_, _, _, _, _⟩) F' N' (by tb_start) ?_); intro _ _ _ _ _; (try k_sweep))
  k_with "subscriptTail Name Slice str ref" => (k_here; (with_reducible rename Fr _ _ _ _ => F'); (with_reducible rename News _ _ _ _ => N'); k_dflt (refine mid_S (s := ⟨_, _, _, _, _⟩) F' N' (by tb_start) ?_); intro _ _ _ _ _; (try k_sweep))
  k_with "subscriptTail Name Slice str ref" => (k_here; (with_reducible rename Fr _ _ _ _ => F'); (with_reducible rename News _ _ _ _ => N'); k_dflt (refine part_S (s := ⟨_, _, _, _, _⟩) F' N' (by tb_start) ?_); intro _ _ _ _ _; (try k_sweep))
  k_with "subscriptTail Name Slice str ref" => (k_here; (with_reducible rename Fr _ _ _ _ => F'); (with_reducible rename News _ _ _ _ => N'); k_dflt (refine init_S (s := ⟨_, _, _, _, _⟩) F' N' (by tb_start) ?_); intro _ _ _ _ _; (try k_sweep))
  k_with "subscriptTail Name UnaryOp str int" => (k_here; (with_reducible show wpAny _ _ (subscriptTail _ _ (Value.str (S _) _) (Value.int _ _)) _ _ _); k_dflt (first | (refine last_S (by first | assumption | (intro hz; simp only [hz, List.length_nil] at *; omega)) (by tb_start) ?_) | (refine item_S (by first | assumption | omega | k_extra "my item") (by tb_start) ?_)))
  k_with "subscriptTail Name Name str int" => (k_here; (with_reducible show wpAny _ _ (subscriptTail _ _ (Value.str (S _) _) (Value.int _ _)) _ _ _); first | (with_reducible refine item_S (by k_dflt (first | assumption | omega | k_extra "my item")) (by k_dflt tb_start) ?_) | k_dflt (refine item_Si (by omega) (by first | omega | k_extra "my item") (by tb_start) ?_))
  k_with "subscriptTail Name Constant str int" => (k_here; (with_reducible show wpAny _ _ (subscriptTail _ _ (Value.str (S _) _) (Value.int _ _)) _ _ _); first | (with_reducible refine item_S (by k_dflt (first | assumption | omega | k_extra "my item")) (by k_dflt tb_start) ?_) | k_dflt (refine item_Si (by omega) (by first | omega | k_extra "my item") (by tb_start) ?_))
  k_with "subscriptTail Name BinOp str int" => (k_here; (with_reducible show wpAny _ _ (subscriptTail _ _ (Value.str (S _) _) (Value.int _ _)) _ _ _); first | (with_reducible refine item_S (by k_dflt (first | assumption | omega | k_extra "my item")) (by k_dflt tb_start) ?_) | k_dflt (refine item_Si (by omega) (by first | omega | k_extra "my item") (by tb_start) ?_))
  k_with "subscriptTail Attribute Name str int" => (k_here; (with_reducible show wpAny _ _ (subscriptTail _ _ (Value.str (S _) _) (Value.int _ _)) _ _ _); first | (with_reducible refine item_S (by k_dflt (first | assumption | omega | k_extra "my item")) (by k_dflt tb_start) ?_) | k_dflt (refine item_Si (by omega) (by first | omega | k_extra "my item") (by tb_start) ?_))
  k_with "subscriptTail Attribute Constant str int" => (k_here; (with_reducible show wpAny _ _ (subscriptTail _ _ (Value.str (S _) _) (Value.int _ _)) _ _ _); first | (with_reducible refine item_S (by k_dflt (first | assumption | omega | k_extra "my item")) (by k_dflt tb_start) ?_) | k_dflt (refine item_Si (by omega) (by first | omega | k_extra "my item") (by tb_start) ?_))
  k_with "subscriptTail Attribute Attribute str int" => (k_here; (with_reducible show wpAny _ _ (subscriptTail _ _ (Value.str (S _) _) (Value.int _ _)) _ _ _); first | (with_reducible refine item_S (by k_dflt (first | assumption | omega | k_extra "my item")) (by k_dflt tb_start) ?_) | k_dflt (refine item_Si (by omega) (by first | omega | k_extra "my item") (by tb_start) ?_))
  k_with "truthy ref" => (k_here; k_dflt (refine' truthy_meth ?N ?q ?_; (case N => k_asm); (case q => k_mem); k_whole))
  k_with "exec For Name Name cons nil" => (k_here; (with_reducible rename Fr _ _ _ _ => lF'); k_dflt (refine' For_invVF lF' ?k1 ?k2 ?_; (case k1 => exact rfl); (case k2 => exact rfl); k_whole))
  k_with "exec For Name Subscript cons nil" => (k_here; (with_reducible rename Fr _ _ _ _ => lF'); k_dflt (refine' For_invVF lF' ?k1 ?k2 ?_; (case k1 => exact rfl); (case k2 => exact rfl); k_whole))
  k_with "all" => (refine List.forall_mem_append.mpr ⟨?a, ?b⟩; (case a => k_all); (case b => k_all))
  k_with "rel" => (simp only [List.size_toArray]; rw [PySem.sizeLine_eq]; omega)
  k_with "call builtin:list.append" => (k_here; (with_reducible show wpAny _ _ (call (Value.builtin _) [Value.ref _, _]) _ _ _); k_dflt (refine' append_K ?k1 ?k2 ?k3 ?_ ?z; (case k1 => k_asm); (case k2 => k_asm); (case k3 => k_upd); (case z => tb_rel); k_whole); intro h' F' N'; (try simp only [List.push_toArray] at N'); (try k_sweep))
  k_with "enter" => (refine' code_def ?k1 ?k2 ?k3 ?k4 ?k5 ?kA ?kF ?kK ?k6 ?k7 ?k8 ?k9 ?kB ?_ ?c2 ?c3 ?c4 ?c5; (case kA => exact rfl); (case kF => exact rfl); (case kK => assumption); (case k1 => k_asm); (case k2 => k_asm); (case k3 => k_asm); (case k4 => k_asm); (case k5 => k_asm); (case k6 => k_is); (case k7 => k_is); (case k8 => ktr_room); (case k9 => first | exact BindsTo.of_eq rfl | exact binds_K (by k_in) rfl (by k_is) rfl rfl rfl); (case c5 => decide); (case kB => exact locs rfl); (case c2 => exact rfl); (case c3 => exact rfl); (case c4 => exact rfl); k_whole; intro g' L' h' FG' F' N' B' X' T'; (try dsimp only); (try k_lift B'); (try k_fold))
  k_with "JoinP" => (dsimp only [JoinP])
  k_with "subscriptTail" => (k_here; (with_reducible show wpAny _ _ (subscriptTail _ _ (Value.str (S _) _) (Value.int _ _)) _ _ _); first | (with_reducible refine item_S (by k_dflt (first | assumption | omega | k_extra "my item")) (by k_dflt tb_start) ?_) | k_dflt (refine item_Si (by omega) (by first | omega | k_extra "my item") (by tb_start) ?_))
  k_with "compareOp Eq str str" => ((with_reducible show wpAny _ _ (compareOp CmpOp.Eq (Value.str (S _) _) (Value.str (Str.ofString _) _)) _ _ _); k_dflt (first | refine eq_lit [13] (by decide +kernel) ?_ | refine eq_lit [10] (by decide +kernel) ?_))
  k_with "compareOp NotEq str str" => ((with_reducible show wpAny _ _ (compareOp CmpOp.NotEq (Value.str (S _) _) (Value.str (Str.ofString _) _)) _ _ _); k_dflt (first | refine ne_lit [13] (by decide +kernel) ?_ | refine ne_lit [10] (by decide +kernel) ?_))
  k_with "inplaceOp Add str str" => ((with_reducible show wpAny _ _ (inplaceOp Operator.Add (Value.str (S _) _) (Value.str (Str.ofString _) _)) _ _ _); k_dflt (refine iadd_lit [10] (by decide +kernel) (by tb_start) ?_); intro _ _)
  k_dflt (k_extra "enter")
  (rename Fr _ _ _ _ => F1)
  (with_unfolding_all change Fr _ _ _ (fun y => List.lookup y [(Str.ofString "code", Value.int (c : Int) t)]) at F1)
  k_steps
  all_goals (
    refine hret _ _ _ _ ⟨?_, rfl⟩ (by assumption) (by first | assumption | exact News.tl (by assumption))
    refine congrArg Value.bool ?_
    rw [Bool.eq_iff_iff]
    simp only [isInv, Bool.or_eq_true, Bool.and_eq_true, decide_eq_true_eq, decide_eq_false_iff_not, beq_iff_eq, beq_eq_false_iff_ne, List.any_cons, List.any_nil, Bool.or_false, Bool.or_eq_false_iff, Bool.not_eq_true', ne_eq, eq_self, true_iff, iff_true, Int.fmod_eq_emod_of_nonneg _ (show (0 : Int) ≤ 65536 by decide)] at *
    omega)
end
def lawDef : Option Stmt := PySem.Challenge.pw_te0074_03.main.body.getLast?
def lawB : List Stmt := match lawDef with | some (.FunctionDef _ _ b _ _ _ _ _ _ _) => b | _ => []
def lawSc : Scope := match lawDef with | some (.FunctionDef _ _ _ _ _ _ sc _ _ _) => sc | _ => default
def forB : List Stmt := match lawB.drop 8 with | .For _ _ b _ _ :: _ => b | _ => []
section
variable {w : World} {mean : ExcName → Option Value} {mg mb : Str → Option Value} {R : List Nat} {rest : List (Addr × Obj)} {ad : List Nat} {x : Nat} {st : St} {news : List (Addr × Obj)}
abbrev baseM (x aC : Addr) (R : List Nat) (tx tr : Tok) (vt vs : Value) : Str → Option Value := fun y => List.lookup y [(Str.ofString "stream", Value.ref x), (Str.ofString "text", Value.str (S (norm R)) tx), (Str.ofString "raw", Value.str (S R) tr), (Str.ofString "codes", Value.ref aC), (Str.ofString "tape", vt), (Str.ofString "script", vs)]
theorem fetch_done2 {R : List Nat} {size : Nat} {st : St} {p : Nat} (hi : Inv R st p) (h : st.place = R.length ∨ R.length ≤ 1) : (st.fetch R size).buf = none := by
  rcases h with h | h
  · exact fetch_done h
  · show (split (st.data R size)).2 = none
    obtain ⟨P, hP, hPR⟩ := inv_data hi size
    have hl := congrArg List.length hPR
    rw [List.length_append, List.length_append] at hl
    unfold split
    rw [if_neg (fun q => by omega)]
set_option maxRecDepth 100000 in
set_option maxHeartbeats 16000000 in
theorem turn_spec (hL : LedIs w R rest ad x st news)
    {p : Nat} (hi : Inv R st p) (hoff : st.off = st.chunk.length) (hPl : Plain R) (hR : R.length ≤ 30) (hne0 : R ≠ []) (hcd : ∀ c ∈ R, ¬ (55296 ≤ c ∧ c ≤ 57343))
    {aC : Addr} {cvs : List Value} (hC : (aC, LCg.lst cvs) ∈ rest) (hCI : IntsAre cvs (R.map fun c : Nat => (c : Int)))
    (bd : List Stmt) (sc : Scope) (hb : forB = bd) (hs : lawSc = sc) (k : Int) (tk tp ts tt tx tr : Tok) (u1 u2 : Option Value) (vt vs : Value)
    (dp un : Nat) (gd : Option (List Code)) (a : Addr) (ccd : Value) (cl : List (Str × Addr)) (outer : List Env) (A₀ : Around) (base h₀ : Heap) (L : Addr) (s : Shared) (Q : Flow → Shared → Prop) (E : Value → Shared → Prop)
    (B : Below A₀ base outer h₀) (F : Fr h₀ L s.heap (fun y => if y = Str.ofString "n" then some (.int k tk) else if y = Str.ofString "until" then u1 else if y = Str.ofString "sign" then u2 else if y = Str.ofString "got" then some (.str (S ((norm R).take p)) tp) else if y = Str.ofString "start" then some (.int (st.cut : Int) ts) else if y = Str.ofString "taken" then some (.int (st.place : Int) tt) else baseM x aC R tx tr vt vs y))
    (X : (hd03.heap_39 w.params).In h₀) (N : News h₀ L s.heap news) (T : Top hd03.view_39 loose mean mg mb h₀) (hd : dp + 100 < recursionLimit) (hu : un + 800 < cLine) (hE : PassesOwn (model PySem.Challenge.pw_te0074_03 w) (ktrTop dp un gd (Str.ofString "law") sc L a ccd cl outer) (envOf (Str.ofString "law") sc L a ccd) E)
    (hret : ∀ h' tk' m' (st' : St) (p' : Nat) nw', (∃ t, m' (Str.ofString "got") = some (.str (S ((norm R).take p')) t)) → (∃ t, m' (Str.ofString "start") = some (.int (st'.cut : Int) t)) → (∃ t, m' (Str.ofString "taken") = some (.int (st'.place : Int) t)) →
      (∀ z, z ≠ Str.ofString "n" → z ≠ Str.ofString "until" → z ≠ Str.ofString "sign" → z ≠ Str.ofString "got" → z ≠ Str.ofString "start" → z ≠ Str.ofString "taken" → m' z = baseM x aC R tx tr vt vs z) →
      Inv R st' p' → st'.off = st'.chunk.length → (st.place + 2 ≤ st'.place ∨ st'.place = R.length) → (st.place = R.length ∨ R.length ≤ 1 → st'.buf = none) → LedIs w R rest ad x st' nw' → Fr h₀ L h' m' → News h₀ L h' nw' → Q .next { s with heap := h', toks := tk' }) :
    wpAny (model PySem.Challenge.pw_te0074_03 w) (ktrTop dp un gd (Str.ofString "law") sc L a ccd cl outer) (execs bd (envOf (Str.ofString "law") sc L a ccd)) Q E s := by
  conv at hb => lhs; whnf
  conv at hs => lhs; whnf
  subst hb hs
  obtain ⟨size, hz⟩ : ∃ size : Nat, 2 + k.fmod 4 = (size : Int) := ⟨(2 + k.fmod 4).toNat, by have := Int.fmod_nonneg_of_pos k (show (0 : Int) < 4 by decide); omega⟩
  have hz2 : 2 ≤ size ∧ size ≤ 5 := by
    have h1 := Int.fmod_nonneg_of_pos k (show (0 : Int) < 4 by decide)
    have h2 := Int.fmod_lt_of_pos k (show (0 : Int) < 4 by decide)
    omega
  obtain ⟨o1, o2, o3, o4, o5⟩ := inv_ok hi (by omega)
  obtain ⟨i1, i2⟩ := inv_fetch hi hPl hoff hz2.1
  have hple := inv_le hi
  have hnl := norm_len R
  have i3 := inv_place hi size
  have i4 := inv_cutR (size := size) hi hPl
  obtain ⟨st2, hst2⟩ : ∃ st2, St.fetch R size st = st2 := ⟨_, rfl⟩
  have i7 : st.place = R.length ∨ R.length ≤ 1 → st2.buf = none := fun h => by rw [← hst2]; exact fetch_done2 hi h
  have i5 : st2.off = 0 := by rw [← hst2]; rfl
  rw [hst2] at i1 i3 i4
  have i6 := inv_until i1
  obtain ⟨ck2, of2, er2, pl2, pc2, bf2, pla2⟩ := st2
  obtain rfl : of2 = 0 := i5
  have hstep := fun j (h : j < ck2.length) => step_at i1 (by omega : R.length ≤ 1000) h
  obtain ⟨ck, of, er, pl, pc, bf, pla⟩ := st
  unfold LedIs at hL
  dsimp only at *
  k_with_none
  k_with "tb" => (first | assumption | omega | (simp only [List.length_append, List.length_cons, List.length_nil, List.length_take, List.length_drop, List.length_dropLast, crs_len, partOf_len] at *; omega) | ((with_reducible refine Nat.le_trans (crlf_len _) ?_); tb_start) | ((with_reducible refine Nat.le_trans (split_len _) ?_); tb_start) | ((with_reducible refine Nat.le_trans (norm_len _) ?_); tb_start))
  k_with "call builtin:str.count" => (refine count4 (by decide +kernel) (by first | assumption | omega) ?_)
  k_with "call builtin:str.rfind" => (refine rfind4 (by decide +kernel) (by first | assumption | omega) ?_)
  k_with "call builtin:str.replace" => ((try dsimp only at *); k_dflt (refine repl_crlf_S (by decide +kernel) (by decide +kernel) (by k_ne) (by k_ne) (by k_ne) (by tb_start) ?_); intro _ _ _)
  k_with "call builtin:str.replace" => ((try dsimp only at *); k_dflt (refine repl_cr_S (by decide +kernel) (by decide +kernel) (by k_ne) (by k_ne) (by k_ne) (by tb_start) ?_); intro _ _ _)
  k_with "call builtin:len" => ((with_reducible show wpAny _ _ (call (Value.builtin "len") [Value.str (S _) _]) _ _ _); refine len_S (by tb_start) ?_)
  k_with "call builtin:ord" => ((with_reducible show wpAny _ _ (call (Value.builtin "ord") [Value.str (S _) _]) _ _ _); refine ord_S ?_)
  k_with "binaryOp Add str str" => ((with_reducible show wpAny _ _ (binaryOp Operator.Add (Value.str (S _) _) (Value.str (S _) _)) _ _ _); refine add_S (by tb_start) ?_; intro _ _)
  k_with "inplaceOp Add str str" => ((with_reducible show wpAny _ _ (inplaceOp Operator.Add (Value.str (S _) _) (Value.str (S _) _)) _ _ _); refine iadd_S (by tb_start) ?_; intro _ _)
  k_with "truthy str" => ((with_reducible show wpAny _ _ (truthy (Value.str (S _) _)) _ _ _); refine truthy_S (by tb_start) ?_)
  k_with "compareOp Eq str str" => ((with_reducible show wpAny _ _ (compareOp CmpOp.Eq (Value.str (S _) _) (Value.str (S _) _)) _ _ _); refine eq_S ?_)
  k_with "compareOp NotEq str str" => ((with_reducible show wpAny _ _ (compareOp CmpOp.NotEq (Value.str (S _) _) (Value.str (S _) _)) _ _ _); refine ne_S ?_)
  k_with "subscriptTail Name Slice str ref" => (k_here; (with_reducible rename Fr _ _ _ _ => F'); (with_reducible rename News _ _ _ _ => N'); k_dflt (refine drop_S (s := ⟨_, _, _, _, _⟩) F' N' (by tb_start) ?_); intro _ _ _ _ _; (try k_sweep))
  k_with "subscriptTail Name Slice str ref" => (k_here; (with_reducible rename Fr _ _ _ _ => F'); (with_reducible rename News _ _ _ _ => N'); k_dflt (refine take_S (s := ⟨_, _, _, _, _⟩) F' N' (by tb_start) ?_); intro _ _ _ _ _; (try k_sweep))
  k_with "subscriptTail Name Slice str ref" => (k_here; (with_reducible rename Fr _ _ _ _ => F'); (with_reducible rename News _ _ _ _ => N'); k_dflt (refine mid_S (s := ⟨_, _, _, _, _⟩) F' N' (by tb_start) ?_); intro _ _ _ _ _; (try k_sweep))
  k_with "subscriptTail Name Slice str ref" => (k_here; (with_reducible rename Fr _ _ _ _ => F'); (with_reducible rename News _ _ _ _ => N'); k_dflt (refine part_S (s := ⟨_, _, _, _, _⟩) F' N' (by tb_start) ?_); intro _ _ _ _ _; (try k_sweep))
  k_with "subscriptTail Name Slice str ref" => (k_here; (with_reducible rename Fr _ _ _ _ => F'); (with_reducible rename News _ _ _ _ => N'); k_dflt (refine init_S (s := ⟨_, _, _, _, _⟩) F' N' (by tb_start) ?_); intro _ _ _ _ _; (try k_sweep))
  k_with "subscriptTail Name UnaryOp str int" => (k_here; (with_reducible show wpAny _ _ (subscriptTail _ _ (Value.str (S _) _) (Value.int _ _)) _ _ _); k_dflt (first | (refine last_S (by first | assumption | (intro hz; simp only [hz, List.length_nil] at *; omega)) (by tb_start) ?_) | (refine item_S (by first | assumption | omega | k_extra "my item") (by tb_start) ?_)))
  k_with "subscriptTail Name Name str int" => (k_here; (with_reducible show wpAny _ _ (subscriptTail _ _ (Value.str (S _) _) (Value.int _ _)) _ _ _); first | (with_reducible refine item_S (by k_dflt (first | assumption | omega | k_extra "my item")) (by k_dflt tb_start) ?_) | k_dflt (refine item_Si (by omega) (by first | omega | k_extra "my item") (by tb_start) ?_))
  k_with "subscriptTail Name Constant str int" => (k_here; (with_reducible show wpAny _ _ (subscriptTail _ _ (Value.str (S _) _) (Value.int _ _)) _ _ _); first | (with_reducible refine item_S (by k_dflt (first | assumption | omega | k_extra "my item")) (by k_dflt tb_start) ?_) | k_dflt (refine item_Si (by omega) (by first | omega | k_extra "my item") (by tb_start) ?_))
  k_with "subscriptTail Name BinOp str int" => (k_here; (with_reducible show wpAny _ _ (subscriptTail _ _ (Value.str (S _) _) (Value.int _ _)) _ _ _); first | (with_reducible refine item_S (by k_dflt (first | assumption | omega | k_extra "my item")) (by k_dflt tb_start) ?_) | k_dflt (refine item_Si (by omega) (by first | omega | k_extra "my item") (by tb_start) ?_))
  k_with "subscriptTail Attribute Name str int" => (k_here; (with_reducible show wpAny _ _ (subscriptTail _ _ (Value.str (S _) _) (Value.int _ _)) _ _ _); first | (with_reducible refine item_S (by k_dflt (first | assumption | omega | k_extra "my item")) (by k_dflt tb_start) ?_) | k_dflt (refine item_Si (by omega) (by first | omega | k_extra "my item") (by tb_start) ?_))
  k_with "subscriptTail Attribute Constant str int" => (k_here; (with_reducible show wpAny _ _ (subscriptTail _ _ (Value.str (S _) _) (Value.int _ _)) _ _ _); first | (with_reducible refine item_S (by k_dflt (first | assumption | omega | k_extra "my item")) (by k_dflt tb_start) ?_) | k_dflt (refine item_Si (by omega) (by first | omega | k_extra "my item") (by tb_start) ?_))
  k_with "subscriptTail Attribute Attribute str int" => (k_here; (with_reducible show wpAny _ _ (subscriptTail _ _ (Value.str (S _) _) (Value.int _ _)) _ _ _); first | (with_reducible refine item_S (by k_dflt (first | assumption | omega | k_extra "my item")) (by k_dflt tb_start) ?_) | k_dflt (refine item_Si (by omega) (by first | omega | k_extra "my item") (by tb_start) ?_))
  k_with "truthy ref" => (k_here; k_dflt (refine' truthy_meth ?N ?q ?_; (case N => k_asm); (case q => k_mem); k_whole))
  k_with "exec For Name Name cons nil" => (k_here; (with_reducible rename Fr _ _ _ _ => lF'); k_dflt (refine' For_invVF lF' ?k1 ?k2 ?_; (case k1 => exact rfl); (case k2 => exact rfl); k_whole))
  k_with "exec For Name Subscript cons nil" => (k_here; (with_reducible rename Fr _ _ _ _ => lF'); k_dflt (refine' For_invVF lF' ?k1 ?k2 ?_; (case k1 => exact rfl); (case k2 => exact rfl); k_whole))
  k_with "all" => (refine List.forall_mem_append.mpr ⟨?a, ?b⟩; (case a => k_all); (case b => k_all))
  k_with "rel" => (simp only [List.size_toArray]; rw [PySem.sizeLine_eq]; omega)
  k_with "call builtin:list.append" => (k_here; (with_reducible show wpAny _ _ (call (Value.builtin _) [Value.ref _, _]) _ _ _); k_dflt (refine' append_K ?k1 ?k2 ?k3 ?_ ?z; (case k1 => k_asm); (case k2 => k_asm); (case k3 => k_upd); (case z => tb_rel); k_whole); intro h' F' N'; (try simp only [List.push_toArray] at N'); (try k_sweep))
  k_with "enter" => (refine' code_def ?k1 ?k2 ?k3 ?k4 ?k5 ?kA ?kF ?kK ?k6 ?k7 ?k8 ?k9 ?kB ?_ ?c2 ?c3 ?c4 ?c5; (case kA => exact rfl); (case kF => exact rfl); (case kK => assumption); (case k1 => k_asm); (case k2 => k_asm); (case k3 => k_asm); (case k4 => k_asm); (case k5 => k_asm); (case k6 => k_is); (case k7 => k_is); (case k8 => ktr_room); (case k9 => first | exact BindsTo.of_eq rfl | exact binds_K (by k_in) rfl (by k_is) rfl rfl rfl); (case c5 => decide); (case kB => exact locs rfl); (case c2 => exact rfl); (case c3 => exact rfl); (case c4 => exact rfl); k_whole; intro g' L' h' FG' F' N' B' X' T'; (try dsimp only); (try k_lift B'); (try k_fold))
  k_with "JoinP" => (dsimp only [JoinP])
  k_with "subscriptTail" => (k_here; (with_reducible show wpAny _ _ (subscriptTail _ _ (Value.str (S _) _) (Value.int _ _)) _ _ _); first | (with_reducible refine item_S (by k_dflt (first | assumption | omega | k_extra "my item")) (by k_dflt tb_start) ?_) | k_dflt (refine item_Si (by omega) (by first | omega | k_extra "my item") (by tb_start) ?_))
  k_with "compareOp Eq str str" => ((with_reducible show wpAny _ _ (compareOp CmpOp.Eq (Value.str (S _) _) (Value.str (Str.ofString _) _)) _ _ _); k_dflt (first | refine eq_lit [13] (by decide +kernel) ?_ | refine eq_lit [10] (by decide +kernel) ?_))
  k_with "compareOp NotEq str str" => ((with_reducible show wpAny _ _ (compareOp CmpOp.NotEq (Value.str (S _) _) (Value.str (Str.ofString _) _)) _ _ _); k_dflt (first | refine ne_lit [13] (by decide +kernel) ?_ | refine ne_lit [10] (by decide +kernel) ?_))
  k_with "inplaceOp Add str str" => ((with_reducible show wpAny _ _ (inplaceOp Operator.Add (Value.str (S _) _) (Value.str (Str.ofString _) _)) _ _ _); k_dflt (refine iadd_lit [10] (by decide +kernel) (by tb_start) ?_); intro _ _)
  k_with "getAttr ref" => ((with_reducible show wpAny _ _ (getAttr (Value.ref _) (Str.ofString "chunk") _) _ _ _); k_dflt (refine g_chunk (by assumption) (by k_asm) (by k_asm) ?N ?_; (case N => first | k_asm | exact News.tl (by k_asm) | exact News.tl (News.tl (by k_asm)) | exact News.tl (News.tl (News.tl (by k_asm))))); intro _)
  k_with "getAttr ref" => ((with_reducible show wpAny _ _ (getAttr (Value.ref _) (Str.ofString "chunkSize") _) _ _ _); k_dflt (refine g_size (by assumption) (by k_asm) (by k_asm) ?N ?_; (case N => first | k_asm | exact News.tl (by k_asm) | exact News.tl (News.tl (by k_asm)) | exact News.tl (News.tl (News.tl (by k_asm))))); intro _)
  k_with "getAttr ref" => ((with_reducible show wpAny _ _ (getAttr (Value.ref _) (Str.ofString "chunkOffset") _) _ _ _); k_dflt (refine g_off (by assumption) (by k_asm) (by k_asm) ?N ?_; (case N => first | k_asm | exact News.tl (by k_asm) | exact News.tl (News.tl (by k_asm)) | exact News.tl (News.tl (News.tl (by k_asm))))); intro _)
  k_with "getAttr ref" => ((with_reducible show wpAny _ _ (getAttr (Value.ref _) (Str.ofString "prevNumLines") _) _ _ _); k_dflt (refine g_pl (by assumption) (by k_asm) (by k_asm) ?N ?_; (case N => first | k_asm | exact News.tl (by k_asm) | exact News.tl (News.tl (by k_asm)) | exact News.tl (News.tl (News.tl (by k_asm))))); intro _)
  k_with "getAttr ref" => ((with_reducible show wpAny _ _ (getAttr (Value.ref _) (Str.ofString "prevNumCols") _) _ _ _); k_dflt (refine g_pc (by assumption) (by k_asm) (by k_asm) ?N ?_; (case N => first | k_asm | exact News.tl (by k_asm) | exact News.tl (News.tl (by k_asm)) | exact News.tl (News.tl (News.tl (by k_asm))))); intro _)
  k_with "getAttr ref" => ((with_reducible show wpAny _ _ (getAttr (Value.ref _) (Str.ofString "errors") _) _ _ _); k_dflt (refine g_errors (by assumption) (by k_asm) (by k_asm) ?N ?_; (case N => first | k_asm | exact News.tl (by k_asm) | exact News.tl (News.tl (by k_asm)) | exact News.tl (News.tl (News.tl (by k_asm))))); intro _ hE1)
  k_with "getAttr ref" => ((with_reducible show wpAny _ _ (getAttr (Value.ref _) (Str.ofString "dataStream") _) _ _ _); k_dflt (refine g_stream (by assumption) (by k_asm) (by k_asm) ?N ?_; (case N => first | k_asm | exact News.tl (by k_asm) | exact News.tl (News.tl (by k_asm)) | exact News.tl (News.tl (News.tl (by k_asm))))); intro _ hT1)
  k_with "getAttr ref" => ((with_reducible show wpAny _ _ (getAttr (Value.ref _) (Str.ofString "_bufferedCharacter") _) _ _ _); k_dflt (refine g_buf (by assumption) (by k_asm) (by k_asm) ?N ?_; (case N => first | k_asm | exact News.tl (by k_asm) | exact News.tl (News.tl (by k_asm)) | exact News.tl (News.tl (News.tl (by k_asm))))); intro _ hB1; (try cases hB1))
  k_with "getAttr ref" => ((with_reducible show wpAny _ _ (getAttr (Value.ref _) (Str.ofString "reportCharacterErrors") _) _ _ _); k_dflt (refine g_rep (by assumption) (by k_asm) (by k_asm) ?N ?_; (case N => first | k_asm | exact News.tl (by k_asm) | exact News.tl (News.tl (by k_asm)) | exact News.tl (News.tl (News.tl (by k_asm))))); intro _ hR1)
  k_with "getAttr ref" => ((with_reducible show wpAny _ _ (getAttr (Value.ref _) (Str.ofString "_defaultChunkSize") _) _ _ _); k_dflt (refine g_dflt (by assumption) (by k_asm) (by k_asm) ?N ?_; (case N => first | k_asm | exact News.tl (by k_asm) | exact News.tl (News.tl (by k_asm)) | exact News.tl (News.tl (News.tl (by k_asm))))); intro _)
  k_with "getAttr ref" => ((with_reducible show wpAny _ _ (getAttr (Value.ref _) (Str.ofString "text") _) _ _ _); k_dflt (refine g_text (by assumption) (by assumption) (by k_asm) (by k_asm) ?N ?_; (case N => first | k_asm | exact News.tl (by k_asm) | exact News.tl (News.tl (by k_asm)) | exact News.tl (News.tl (News.tl (by k_asm))))); intro _)
  k_with "getAttr ref" => ((with_reducible show wpAny _ _ (getAttr (Value.ref _) (Str.ofString "place") _) _ _ _); k_dflt (refine g_place (by assumption) (by assumption) (by k_asm) (by k_asm) ?N ?_; (case N => first | k_asm | exact News.tl (by k_asm) | exact News.tl (News.tl (by k_asm)) | exact News.tl (News.tl (News.tl (by k_asm))))); intro _)
  k_with "setAttr ref" => ((with_reducible show wpAny _ _ (setAttr (Value.ref _) (Str.ofString "chunk") _) _ _ _); (with_reducible rename LedR _ _ _ _ _ _ _ _ _ _ _ _ _ _ => hLo); k_dflt (refine s_chunk hLo (by k_asm) (by k_asm) ?N ?_; (case N => first | k_asm | exact News.tl (by k_asm) | exact News.tl (News.tl (by k_asm)) | exact News.tl (News.tl (News.tl (by k_asm))))); intro h' n' F' N' hL'; (try k_sweep); clear hLo)
  k_with "setAttr ref" => ((with_reducible show wpAny _ _ (setAttr (Value.ref _) (Str.ofString "chunk") (Value.str (Str.ofString "") _)) _ _ _); (with_reducible rename LedR _ _ _ _ _ _ _ _ _ _ _ _ _ _ => hLo); k_dflt (refine s_chunk0 hLo (by k_asm) (by k_asm) ?N ?_; (case N => first | k_asm | exact News.tl (by k_asm) | exact News.tl (News.tl (by k_asm)) | exact News.tl (News.tl (News.tl (by k_asm))))); intro h' n' F' N' hL'; (try k_sweep); clear hLo)
  k_with "setAttr ref" => ((with_reducible show wpAny _ _ (setAttr (Value.ref _) (Str.ofString "chunkSize") _) _ _ _); (with_reducible rename LedR _ _ _ _ _ _ _ _ _ _ _ _ _ _ => hLo); k_dflt (refine s_size hLo (by k_asm) (by k_asm) ?N ?_; (case N => first | k_asm | exact News.tl (by k_asm) | exact News.tl (News.tl (by k_asm)) | exact News.tl (News.tl (News.tl (by k_asm))))); intro h' n' F' N' hL'; (try k_sweep); clear hLo)
  k_with "setAttr ref" => ((with_reducible show wpAny _ _ (setAttr (Value.ref _) (Str.ofString "chunkOffset") _) _ _ _); (with_reducible rename LedR _ _ _ _ _ _ _ _ _ _ _ _ _ _ => hLo); k_dflt (refine s_off hLo (by k_asm) (by k_asm) ?N ?_; (case N => first | k_asm | exact News.tl (by k_asm) | exact News.tl (News.tl (by k_asm)) | exact News.tl (News.tl (News.tl (by k_asm))))); intro h' n' F' N' hL'; (try k_sweep); clear hLo)
  k_with "setAttr ref" => ((with_reducible show wpAny _ _ (setAttr (Value.ref _) (Str.ofString "prevNumLines") _) _ _ _); (with_reducible rename LedR _ _ _ _ _ _ _ _ _ _ _ _ _ _ => hLo); k_dflt (refine s_pl hLo (by k_asm) (by k_asm) ?N ?_; (case N => first | k_asm | exact News.tl (by k_asm) | exact News.tl (News.tl (by k_asm)) | exact News.tl (News.tl (News.tl (by k_asm))))); intro h' n' F' N' hL'; (try k_sweep); clear hLo)
  k_with "setAttr ref" => ((with_reducible show wpAny _ _ (setAttr (Value.ref _) (Str.ofString "prevNumCols") _) _ _ _); (with_reducible rename LedR _ _ _ _ _ _ _ _ _ _ _ _ _ _ => hLo); k_dflt (refine s_pc hLo (by k_asm) (by k_asm) ?N ?_; (case N => first | k_asm | exact News.tl (by k_asm) | exact News.tl (News.tl (by k_asm)) | exact News.tl (News.tl (News.tl (by k_asm))))); intro h' n' F' N' hL'; (try k_sweep); clear hLo)
  k_with "setAttr ref" => ((with_reducible show wpAny _ _ (setAttr (Value.ref _) (Str.ofString "_bufferedCharacter") _) _ _ _); (with_reducible rename LedR _ _ _ _ _ _ _ _ _ _ _ _ _ _ => hLo); k_dflt (refine s_buf (by first | exact BufIs.none | exact BufIs.some | assumption) hLo (by k_asm) (by k_asm) ?N ?_; (case N => first | k_asm | exact News.tl (by k_asm) | exact News.tl (News.tl (by k_asm)) | exact News.tl (News.tl (News.tl (by k_asm))))); intro h' n' F' N' hL'; (try k_sweep); clear hLo)
  k_with "setAttr ref" => ((with_reducible show wpAny _ _ (setAttr (Value.ref _) (Str.ofString "place") _) _ _ _); (with_reducible rename LedR _ _ _ _ _ _ _ _ _ _ _ _ _ _ => hLo); k_dflt (refine s_place hLo (by assumption) (by k_asm) (by k_asm) ?N ?_; (case N => first | k_asm | exact News.tl (by k_asm) | exact News.tl (News.tl (by k_asm)) | exact News.tl (News.tl (News.tl (by k_asm))))); intro h' n' F' N' hL'; (try k_sweep); clear hLo)
  k_with "getMethod ref" => ((with_reducible show wpAny _ _ (getMethod (Value.ref _) (Str.ofString "_position") _) _ _ _); k_dflt (refine m_pos_ (by assumption) (by k_asm) (by k_asm) ?N ?_; (case N => first | k_asm | exact News.tl (by k_asm) | exact News.tl (News.tl (by k_asm)) | exact News.tl (News.tl (News.tl (by k_asm))))))
  k_with "getMethod ref" => ((with_reducible show wpAny _ _ (getMethod (Value.ref _) (Str.ofString "position") _) _ _ _); k_dflt (refine m_pos (by assumption) (by k_asm) (by k_asm) ?N ?_; (case N => first | k_asm | exact News.tl (by k_asm) | exact News.tl (News.tl (by k_asm)) | exact News.tl (News.tl (News.tl (by k_asm))))))
  k_with "getMethod ref" => ((with_reducible show wpAny _ _ (getMethod (Value.ref _) (Str.ofString "char") _) _ _ _); k_dflt (refine m_char (by assumption) (by k_asm) (by k_asm) ?N ?_; (case N => first | k_asm | exact News.tl (by k_asm) | exact News.tl (News.tl (by k_asm)) | exact News.tl (News.tl (News.tl (by k_asm))))))
  k_with "getMethod ref" => ((with_reducible show wpAny _ _ (getMethod (Value.ref _) (Str.ofString "readChunk") _) _ _ _); k_dflt (refine m_chunk (by assumption) (by k_asm) (by k_asm) ?N ?_; (case N => first | k_asm | exact News.tl (by k_asm) | exact News.tl (News.tl (by k_asm)) | exact News.tl (News.tl (News.tl (by k_asm))))))
  k_with "getMethod ref" => ((with_reducible show wpAny _ _ (getMethod (Value.ref _) (Str.ofString "unget") _) _ _ _); k_dflt (refine m_unget (by assumption) (by k_asm) (by k_asm) ?N ?_; (case N => first | k_asm | exact News.tl (by k_asm) | exact News.tl (News.tl (by k_asm)) | exact News.tl (News.tl (News.tl (by k_asm))))))
  k_with "getMethod ref" => ((with_reducible show wpAny _ _ (getMethod (Value.ref _) (Str.ofString "charsUntil") _) _ _ _); k_dflt (refine m_until (by assumption) (by k_asm) (by k_asm) ?N ?_; (case N => first | k_asm | exact News.tl (by k_asm) | exact News.tl (News.tl (by k_asm)) | exact News.tl (News.tl (News.tl (by k_asm))))))
  k_with "getMethod ref" => ((with_reducible show wpAny _ _ (getMethod (Value.ref _) (Str.ofString "read") _) _ _ _); k_dflt (refine m_read (by assumption) (by assumption) (by k_asm) (by k_asm) ?N ?_; (case N => first | k_asm | exact News.tl (by k_asm) | exact News.tl (News.tl (by k_asm)) | exact News.tl (News.tl (News.tl (by k_asm))))))
  k_with "getMethod ref" => ((with_reducible show wpAny _ _ (getMethod (Value.ref _) (Str.ofString "reportCharacterErrors") _) _ _ _); k_dflt (refine m_rep (by assumption) (by k_asm) (by k_asm) ?N ?_; (case N => first | k_asm | exact News.tl (by k_asm) | exact News.tl (News.tl (by k_asm)) | exact News.tl (News.tl (News.tl (by k_asm))))); intro _ hR1)
  k_with "getMethod ref" => ((with_reducible show wpAny _ _ (getMethod (Value.ref _) (Str.ofString "append") _) _ _ _); k_dflt (refine m_append (by assumption) (by assumption) (by k_asm) (by k_asm) ?N ?_; (case N => first | k_asm | exact News.tl (by k_asm) | exact News.tl (News.tl (by k_asm)) | exact News.tl (News.tl (News.tl (by k_asm))))))
  k_with "call builtin:list.append" => ((with_reducible rename LedR _ _ _ _ _ _ _ _ _ _ _ _ _ _ => hLo); k_dflt (refine app_err hLo (by assumption) (by k_asm) (by k_asm) ?N (by omega) ?_; (case N => first | k_asm | exact News.tl (by k_asm) | exact News.tl (News.tl (by k_asm)) | exact News.tl (News.tl (News.tl (by k_asm))))); intro h' n' F' N' hL'; (try k_sweep); clear hLo)
  k_with "call ref" => ((with_reducible show wpAny _ _ (call (Value.ref 113) _) _ _ _); (with_reducible rename LedR _ _ _ _ _ _ _ _ _ _ _ _ _ _ => hLo); k_dflt ((rw [hz]); (refine' Spec.use (chunk_spec (st := ⟨ck, of, er, pl, pc, bf, pla⟩) hLo size _ o1 o2 o3 o4 (by omega)) ?B ?F ?X ?N ?T ?hk ?hd ?hu ?_); (case B => k_asm); (case F => k_asm); (case X => k_asm); (case T => k_asm); (case hk => first | exact rfl | assumption); (case N => first | k_asm | exact News.tl (by k_asm) | exact News.tl (News.tl (by k_asm)) | exact News.tl (News.tl (News.tl (by k_asm)))); (case hd => ktr_room); (case hu => ktr_units); (intro r' n' h' tk' hR' hle' F' N'); (rw [i2, hst2] at hR'); (obtain ⟨hr', hL'⟩ := hR'); subst hr'; (clear hLo); (unfold LedIs at hL'); (dsimp only at *); (try k_fold)))
  have hT : (if (R.length : Int) < (pla : Int) + 2 + k.fmod 4 then (R.length : Int) else (pla : Int) + 2 + k.fmod 4) = (pla2 : Int) := by split <;> omega
  have hRl : 0 < R.length := List.length_pos_iff.mpr hne0
  have hT1 : 0 < pla2 := by omega
  have hT2 : pla2 ≤ R.length := by omega
  k_with "call ref" => ((with_reducible show wpAny _ _ (call (Value.ref 177) _) _ _ _); k_dflt ((rw [hT]); (with_reducible rename Fr _ _ _ _ => F9); (rw [hT] at F9); (refine' Spec.use (cut_spec R _ pla2 _ _ _ (by omega) hT1 hT2 _) ?B ?F ?X ?N ?T ?hk ?hd ?hu ?_); (case B => k_asm); (case F => k_asm); (case X => k_asm); (case T => k_asm); (case hk => first | exact rfl | assumption); (case N => first | k_asm | exact News.tl (by k_asm) | exact News.tl (News.tl (by k_asm)) | exact News.tl (News.tl (News.tl (by k_asm)))); (case hd => ktr_room); (case hu => ktr_units); (intro r' n' h' tk' hR' hle' F' N'); (rw [i4] at hR'); (obtain ⟨⟨tm, hr'⟩, hn'⟩ := hR'); subst hr'; subst hn'; (clear F9); (try dsimp only); (try k_fold)))
  have hx : (decide (p < (norm R).length) != decide ((norm R).take p ≠ norm R)) = false := by
    have : (p < (norm R).length) ↔ (norm R).take p ≠ norm R := by
      constructor
      · intro h e
        have := congrArg List.length e
        rw [List.length_take] at this
        omega
      · intro h
        refine Nat.lt_of_not_le fun q => h (List.take_of_length_le q)
    simp [this]
  have hne : er2 = (R.take (St.cut ⟨ck2, 0, er2, pl2, pc2, bf2, pla2⟩)).countP isInv := inv_errs i1
  have hcut0 := i4
  obtain ⟨cut, hcut⟩ : ∃ cut, St.cut ⟨ck2, 0, er2, pl2, pc2, bf2, pla2⟩ = cut := ⟨_, rfl⟩
  rw [hcut] at i4 i6 hne
  have hcl : cvs.length = R.length := by have := IntsAre.length hCI; simpa using this
  have hRT : (R.take cut).length ≤ 30 := by rw [List.length_take]; omega
  have hcd2 : ∀ i c, (R.take cut)[i]? = some c → ¬ (55296 ≤ c ∧ c ≤ 57343) := fun i c h => hcd c (List.mem_of_mem_take (List.mem_of_getElem? h))
  have hwl : ∀ ws' : List Value, IntsAre ws' ((R.map fun c : Nat => (c : Int)).take cut) → ws'.toArray.size = (R.take cut).length := fun ws' h => by
    have := IntsAre.length h
    rw [List.size_toArray, this, List.length_take, List.length_take, List.length_map]
  k_with "eval ListComp" => ((with_reducible show wpAny _ _ (eval (Expr.ListComp (Expr.Constant _ _ _) _ _ _) _) _ _ _); k_dflt (refine LCt.ListComp_T (F₀ := by k_asm) (by with_unfolding_all rfl) (by decide) (by rfl) (by decide) (by rfl) ?_))
  k_with "subscriptTail Name Slice ref ref" => ((with_reducible rename Fr _ _ _ _ => F9); (with_reducible rename News _ _ _ _ => N9); (with_reducible rename LedR _ _ _ _ _ _ _ _ _ _ _ _ _ _ => hLo); k_dflt ((have hmC := LedR.mem_rest hLo hC); (refine take_L (n := cut) (s := ⟨_, _, _, _, _⟩) F9 N9 (News.isList N9 hmC) hCI (by omega) ?_)); (clear F9 N9); (intro D' ws' h' F' N' l1' hI'))
  k_with "CompSrcT" => ((with_reducible show LCt.CompSrcT _ _ _ _ _ _ _ _ _ _ _ _ _ _ _); (have hw9 := hwl _ hI'); k_dflt (refine LCt.CompSrcT.ledger (by rfl) (by k_asm) (by k_asm) (.head _) (by rw [hw9, PySem.sizeLine_eq]; omega) ?_); intro g'; k_dflt (refine restT_inv (fun i ys nw => nw = _ ∧ StrsAre ys (List.replicate (((R.take cut).take i).countP isInv) sInv)) ⟨rfl, .nil⟩ ?ca ?cb); (case' ca => intro i v ys nw I oI C oC D m₂ h tk E' hi' hP hJ hC' hx' F' N' off ne; (obtain ⟨hnw, hS⟩ := hJ); subst hnw; (obtain ⟨c, tc, hc, hv⟩ := ints_at hI' hP); subst hv; (have hcs := hcd2 i c hc); (have off0 := off); (simp only [LCg.Off3, and_true] at off0); (try k_fold)); (case' cb => intro ys nw hJ; (obtain ⟨hnw, hS⟩ := hJ); subst hnw; (rw [hw9, List.take_length] at hS); (try k_fold)))
  k_with "call ref" => ((with_reducible show wpAny _ _ (call (Value.ref 163) _) _ _ _); k_dflt ((refine' Spec.use (bad3_spec c _ hcs _) ?B ?F ?X ?N ?T ?hk ?hd ?hu ?_); (case B => k_asm); (case F => k_asm); (case X => k_asm); (case T => k_asm); (case hk => first | exact rfl | assumption); (case N => first | k_asm | exact News.tl (by k_asm) | exact News.tl (News.tl (by k_asm)) | exact News.tl (News.tl (News.tl (by k_asm)))); (case hd => ktr_room); (case hu => ktr_units); (intro r' n' h' tk' hR' hle' F' N'); (obtain ⟨hr', hn'⟩ := hR'); subst hr'; subst hn'; (try dsimp only); (try k_fold)))
  k_with "call ref" => ((with_reducible show wpAny _ _ (call (Value.ref 170) _) _ _ _); k_dflt ((refine' Spec.use (mended_spec _ _ (by first | omega | (simp only [List.length_take]; omega)) _) ?B ?F ?X ?N ?T ?hk ?hd ?hu ?_); (case B => k_asm); (case F => k_asm); (case X => k_asm); (case T => k_asm); (case hk => first | exact rfl | assumption); (case N => first | k_asm | exact News.tl (by k_asm) | exact News.tl (News.tl (by k_asm)) | exact News.tl (News.tl (News.tl (by k_asm)))); (case hd => ktr_room); (case hu => ktr_units); (intro r' n' h' tk' hR' hle' F' N'); (obtain ⟨⟨tm, hr'⟩, hn'⟩ := hR'); subst hr'; subst hn'; (try dsimp only); (try k_fold)))
  k_with "CompEnd" => ((with_reducible show LCg.CompEnd _ _ _ _ _ _ _ _ _ _ _ _ _ _); (with_reducible rename News _ _ _ _ => N9); k_dflt (refine LCg.CompEnd.intro (by assumption) N9 _ (fun p hp => hp) (by assumption) (.inr ⟨_, .head _, rfl, _, rfl⟩) ⟨rfl, ?_⟩); first | exact rep_yesP hc (by assumption) hS | exact rep_noP hc (by assumption) hS | exact rep_noP hc (by simp only [Bool.not_eq_true]; assumption) hS)
  k_with "compareOp NotEq ref ref" => (k_here; (with_reducible show wpAny _ _ (compareOp CmpOp.NotEq (Value.ref _) (Value.ref _)) _ _ _); (obtain ⟨ev, ep, hm1, hs1⟩ := e_list (by assumption) (by assumption)); k_dflt (refine' ne_rep_no (v := sInv) (News.isList ?nrN1 ?nrm1) (News.isList ?nrN2 ?nrm2) hs1 ?nrj ?nrv ?nru hne ?_; (case nrN1 => k_asm); (case nrN2 => k_asm); (case nrm2 => exact .head _); (case nrm1 => first | exact hm1 | exact .tail _ hm1 | exact .tail _ (.tail _ hm1)); (case nrj => assumption); (case nrv => decide +kernel); (case nru => ke_room); k_whole); (clear hm1 hs1))
  have hU : (norm (R.take cut)).length = p + ck2.length := by omega
  have hle2 := inv_le (inv_off i1 (Nat.le_refl ck2.length))
  k_with "exec While" => ((with_reducible rename Fr _ _ _ _ => F9); (with_reducible rename News _ _ _ _ => N9); (with_reducible rename LedR _ _ _ _ _ _ _ _ _ _ _ _ _ _ => hLo); k_dflt ((refine' while_m (fun m₀ n m' nx => ∃ j : Nat, j + n = ck2.length ∧ (∃ (t : Tok) (u : Option Value), m' = fun z => if z = Str.ofString "got" then some (.str (S ((norm R).take (p + j))) t) else if z = Str.ofString "sign" then u else m₀ z) ∧ LedR w R rest ad x ck2 (ck2.length : Int) (j : Int) er2 (pl2 : Int) (pc2 : Int) bf2 (pla2 : Int) nx) ck2.length F9 ?wN ?wj ?wt); (case' wj => exact ⟨0, by omega, setS ⟨_, rfl⟩ (fun z hz hz2 => rfl), hLo⟩); (case' wN => first | exact N9 | exact News.tl N9 | exact News.tl (News.tl N9) | exact News.tl (News.tl (News.tl N9)))); (case' wt => clear F9 N9 hLo; intro n m₁ nx h₁ tk₁ hJ F' N'; (obtain ⟨j, hjn, ⟨tj, uj, hm'⟩, hL'⟩ := hJ); subst hm'; (have hgl : (List.take (p + j) (norm R)).length = p + j := by rw [List.length_take]; omega); (dsimp only at *); (try k_fold)))
  k_with "call ref" => ((with_reducible show wpAny _ _ (call (Value.ref 105) _) _ _ _); (with_reducible rename LedR _ _ _ _ _ _ _ _ _ _ _ _ _ _ => hLo); k_dflt ((obtain ⟨c, s1, s2, s3, s4, s5, s6⟩ := hstep j (by omega)); (obtain ⟨q1, q2, q3, q4, q5⟩ := s1); (refine' Spec.use (char_spec (st := ⟨ck2, j, er2, pl2, pc2, bf2, pla2⟩) hLo q1 q2 q3 q4) ?B ?F ?X ?N ?T ?hk ?hd ?hu ?_); (case B => k_asm); (case F => k_asm); (case X => k_asm); (case T => k_asm); (case hk => first | exact rfl | assumption); (case N => first | k_asm | exact News.tl (by k_asm) | exact News.tl (News.tl (by k_asm)) | exact News.tl (News.tl (News.tl (by k_asm)))); (case hd => ktr_room); (case hu => ktr_units); (intro r' n' h' tk' hR' hle' F' N'); (rw [s2] at hR'); (obtain ⟨hr', hL'⟩ := hR'); (cases hr'); (clear hLo); (unfold LedIs at hL'); (dsimp only at *); (try k_fold)))
  k_with "WhileStep2" => ((with_reducible show WhileStep2 _ _ _ _ _ _ Flow.next _); k_dflt (refine wstep_end (n' := n - 1) (by assumption) (by first | assumption | exact News.tl (by assumption)) (by omega) ⟨j + 1, by omega, setS (str_is rfl (congrArg S (take_more s4 s5))) (fun z hz hz2 => by simp only [hz, hz2, if_false]), by assumption⟩))
  k_steps
  · have hj : j = ck2.length := by omega
    exact absurd (show (norm R).take (p + j) = (norm R).take (norm (R.take cut)).length by rw [hU, hj]) (by assumption)
  · refine' hret _ _ _ ⟨ck2, j, er2, pl2, pc2, bf2, pla2⟩ (p + j) _ ?c1 ?c2 ?c3 ?c4 (inv_off i1 (by omega)) (by dsimp only; omega) (by dsimp only; omega) i7 (by assumption) ?cF ?cN
    (case cF => assumption)
    (case cN => first | assumption | exact News.tl (by assumption))
    (case c1 => exact ⟨_, rfl⟩)
    (case c2 => exact ⟨_, int_eq (congrArg (Nat.cast (R := Int)) hcut.symm)⟩)
    (case c3 => exact ⟨_, rfl⟩)
    (case c4 => intro z a1 a2 a3 a4 a5 a6; simp only [a1, a2, a3, a4, a5, a6, if_false])
end
section
variable {w : World} {mean : ExcName → Option Value} {mg mb : Str → Option Value} {R : List Nat} {rest : List (Addr × Obj)} {ad : List Nat} {x : Nat} {st : St} {news : List (Addr × Obj)}
set_option maxRecDepth 100000 in
set_option maxHeartbeats 16000000 in
theorem tail_spec (hL : LedIs w R rest ad x st news)
    {p : Nat} (hi : Inv R st p) (hp : p = (norm R).length) (hPl : Plain R) (hR : R.length ≤ 30) {aC : Addr}
    (bd : List Stmt) (sc : Scope) (hb : lawB.drop 9 = bd) (hs : lawSc = sc) (tp ts tt tx tr : Tok) (u0 u1 u2 : Option Value) (vt vs : Value)
    (dp un : Nat) (gd : Option (List Code)) (a : Addr) (ccd : Value) (cl : List (Str × Addr)) (outer : List Env) (A₀ : Around) (base h₀ : Heap) (L : Addr) (s : Shared) (Q : Flow → Shared → Prop) (E : Value → Shared → Prop)
    (B : Below A₀ base outer h₀) (F : Fr h₀ L s.heap (fun y => if y = Str.ofString "n" then u0 else if y = Str.ofString "until" then u1 else if y = Str.ofString "sign" then u2 else if y = Str.ofString "got" then some (.str (S ((norm R).take p)) tp) else if y = Str.ofString "start" then some (.int (st.cut : Int) ts) else if y = Str.ofString "taken" then some (.int (st.place : Int) tt) else baseM x aC R tx tr vt vs y))
    (X : (hd03.heap_39 w.params).In h₀) (N : News h₀ L s.heap news) (T : Top hd03.view_39 loose mean mg mb h₀) (hd : dp + 100 < recursionLimit) (hu : un + 800 < cLine) (hE : PassesOwn (model PySem.Challenge.pw_te0074_03 w) (ktrTop dp un gd (Str.ofString "law") sc L a ccd cl outer) (envOf (Str.ofString "law") sc L a ccd) E)
    (hret : ∀ h' tk' m' nw', Fr h₀ L h' m' → News h₀ L h' nw' → Q (.ret (.bool true)) { s with heap := h', toks := tk' }) :
    wpAny (model PySem.Challenge.pw_te0074_03 w) (ktrTop dp un gd (Str.ofString "law") sc L a ccd cl outer) (execs bd (envOf (Str.ofString "law") sc L a ccd)) Q E s := by
  conv at hb => lhs; whnf
  conv at hs => lhs; whnf
  subst hb hs
  have hg : (norm R).take p = norm R := List.take_of_length_le (by omega)
  rw [hg] at F
  have hnl := norm_len R
  unfold LedIs at hL
  k_with_none
  k_with "tb" => (first | assumption | omega | (simp only [List.length_append, List.length_cons, List.length_nil, List.length_take, List.length_drop, List.length_dropLast, crs_len, partOf_len] at *; omega) | ((with_reducible refine Nat.le_trans (crlf_len _) ?_); tb_start) | ((with_reducible refine Nat.le_trans (split_len _) ?_); tb_start) | ((with_reducible refine Nat.le_trans (norm_len _) ?_); tb_start))
  k_with "call builtin:str.count" => (refine count4 (by decide +kernel) (by first | assumption | omega) ?_)
  k_with "call builtin:str.rfind" => (refine rfind4 (by decide +kernel) (by first | assumption | omega) ?_)
  k_with "call builtin:str.replace" => ((try dsimp only at *); k_dflt (refine repl_crlf_S (by decide +kernel) (by decide +kernel) (by k_ne) (by k_ne) (by k_ne) (by tb_start) ?_); intro _ _ _)
  k_with "call builtin:str.replace" => ((try dsimp only at *); k_dflt (refine repl_cr_S (by decide +kernel) (by decide +kernel) (by k_ne) (by k_ne) (by k_ne) (by tb_start) ?_); intro _ _ _)
  k_with "call builtin:len" => ((with_reducible show wpAny _ _ (call (Value.builtin "len") [Value.str (S _) _]) _ _ _); refine len_S (by tb_start) ?_)
  k_with "call builtin:ord" => ((with_reducible show wpAny _ _ (call (Value.builtin "ord") [Value.str (S _) _]) _ _ _); refine ord_S ?_)
  k_with "binaryOp Add str str" => ((with_reducible show wpAny _ _ (binaryOp Operator.Add (Value.str (S _) _) (Value.str (S _) _)) _ _ _); refine add_S (by tb_start) ?_; intro _ _)
  k_with "inplaceOp Add str str" => ((with_reducible show wpAny _ _ (inplaceOp Operator.Add (Value.str (S _) _) (Value.str (S _) _)) _ _ _); refine iadd_S (by tb_start) ?_; intro _ _)
  k_with "truthy str" => ((with_reducible show wpAny _ _ (truthy (Value.str (S _) _)) _ _ _); refine truthy_S (by tb_start) ?_)
  k_with "compareOp Eq str str" => ((with_reducible show wpAny _ _ (compareOp CmpOp.Eq (Value.str (S _) _) (Value.str (S _) _)) _ _ _); refine eq_S ?_)
  k_with "compareOp NotEq str str" => ((with_reducible show wpAny _ _ (compareOp CmpOp.NotEq (Value.str (S _) _) (Value.str (S _) _)) _ _ _); refine ne_S ?_)
  k_with "subscriptTail Name Slice str ref" => (k_here; (with_reducible rename Fr _ _ _ _ => F'); (with_reducible rename News _ _ _ _ => N'); k_dflt (refine drop_S (s := ⟨_, _, _, _, _⟩) F' N' (by tb_start) ?_); intro _ _ _ _ _; (try k_sweep))
  k_with "subscriptTail Name Slice str ref" => (k_here; (with_reducible rename Fr _ _ _ _ => F'); (with_reducible rename News _ _ _ _ => N'); k_dflt (refine take_S (s := ⟨_, _, _, _, _⟩) F' N' (by tb_start) ?_); intro _ _ _ _ _; (try k_sweep))
  k_with "subscriptTail Name Slice str ref" => (k_here; (with_reducible rename Fr _ _ _ _ => F'); (with_reducible rename News _ _ _ _ => N'); k_dflt (refine mid_S (s := ⟨_, _, _, _, _⟩) F' N' (by tb_start) ?_); intro _ _ _ _ _; (try k_sweep))
  k_with "subscriptTail Name Slice str ref" => (k_here; (with_reducible rename Fr _ _ _ _ => F'); (with_reducible rename News _ _ _ _ => N'); k_dflt (refine part_S (s := ⟨_, _, _, _, _⟩) F' N' (by tb_start) ?_); intro _ _ _ _ _; (try k_sweep))
  k_with "subscriptTail Name Slice str ref" => (k_here; (with_reducible rename Fr _ _ _ _ => F'); (with_reducible rename News _ _ _ _ => N'); k_dflt (refine init_S (s := ⟨_, _, _, _, _⟩) F' N' (by tb_start) ?_); intro _ _ _ _ _; (try k_sweep))
  k_with "subscriptTail Name UnaryOp str int" => (k_here; (with_reducible show wpAny _ _ (subscriptTail _ _ (Value.str (S _) _) (Value.int _ _)) _ _ _); k_dflt (first | (refine last_S (by first | assumption | (intro hz; simp only [hz, List.length_nil] at *; omega)) (by tb_start) ?_) | (refine item_S (by first | assumption | omega | k_extra "my item") (by tb_start) ?_)))
  k_with "subscriptTail Name Name str int" => (k_here; (with_reducible show wpAny _ _ (subscriptTail _ _ (Value.str (S _) _) (Value.int _ _)) _ _ _); first | (with_reducible refine item_S (by k_dflt (first | assumption | omega | k_extra "my item")) (by k_dflt tb_start) ?_) | k_dflt (refine item_Si (by omega) (by first | omega | k_extra "my item") (by tb_start) ?_))
  k_with "subscriptTail Name Constant str int" => (k_here; (with_reducible show wpAny _ _ (subscriptTail _ _ (Value.str (S _) _) (Value.int _ _)) _ _ _); first | (with_reducible refine item_S (by k_dflt (first | assumption | omega | k_extra "my item")) (by k_dflt tb_start) ?_) | k_dflt (refine item_Si (by omega) (by first | omega | k_extra "my item") (by tb_start) ?_))
  k_with "subscriptTail Name BinOp str int" => (k_here; (with_reducible show wpAny _ _ (subscriptTail _ _ (Value.str (S _) _) (Value.int _ _)) _ _ _); first | (with_reducible refine item_S (by k_dflt (first | assumption | omega | k_extra "my item")) (by k_dflt tb_start) ?_) | k_dflt (refine item_Si (by omega) (by first | omega | k_extra "my item") (by tb_start) ?_))
  k_with "subscriptTail Attribute Name str int" => (k_here; (with_reducible show wpAny _ _ (subscriptTail _ _ (Value.str (S _) _) (Value.int _ _)) _ _ _); first | (with_reducible refine item_S (by k_dflt (first | assumption | omega | k_extra "my item")) (by k_dflt tb_start) ?_) | k_dflt (refine item_Si (by omega) (by first | omega | k_extra "my item") (by tb_start) ?_))
  k_with "subscriptTail Attribute Constant str int" => (k_here; (with_reducible show wpAny _ _ (subscriptTail _ _ (Value.str (S _) _) (Value.int _ _)) _ _ _); first | (with_reducible refine item_S (by k_dflt (first | assumption | omega | k_extra "my item")) (by k_dflt tb_start) ?_) | k_dflt (refine item_Si (by omega) (by first | omega | k_extra "my item") (by tb_start) ?_))
  k_with "subscriptTail Attribute Attribute str int" => (k_here; (with_reducible show wpAny _ _ (subscriptTail _ _ (Value.str (S _) _) (Value.int _ _)) _ _ _); first | (with_reducible refine item_S (by k_dflt (first | assumption | omega | k_extra "my item")) (by k_dflt tb_start) ?_) | k_dflt (refine item_Si (by omega) (by first | omega | k_extra "my item") (by tb_start) ?_))
  k_with "truthy ref" => (k_here; k_dflt (refine' truthy_meth ?N ?q ?_; (case N => k_asm); (case q => k_mem); k_whole))
  k_with "exec For Name Name cons nil" => (k_here; (with_reducible rename Fr _ _ _ _ => lF'); k_dflt (refine' For_invVF lF' ?k1 ?k2 ?_; (case k1 => exact rfl); (case k2 => exact rfl); k_whole))
  k_with "exec For Name Subscript cons nil" => (k_here; (with_reducible rename Fr _ _ _ _ => lF'); k_dflt (refine' For_invVF lF' ?k1 ?k2 ?_; (case k1 => exact rfl); (case k2 => exact rfl); k_whole))
  k_with "all" => (refine List.forall_mem_append.mpr ⟨?a, ?b⟩; (case a => k_all); (case b => k_all))
  k_with "rel" => (simp only [List.size_toArray]; rw [PySem.sizeLine_eq]; omega)
  k_with "call builtin:list.append" => (k_here; (with_reducible show wpAny _ _ (call (Value.builtin _) [Value.ref _, _]) _ _ _); k_dflt (refine' append_K ?k1 ?k2 ?k3 ?_ ?z; (case k1 => k_asm); (case k2 => k_asm); (case k3 => k_upd); (case z => tb_rel); k_whole); intro h' F' N'; (try simp only [List.push_toArray] at N'); (try k_sweep))
  k_with "enter" => (refine' code_def ?k1 ?k2 ?k3 ?k4 ?k5 ?kA ?kF ?kK ?k6 ?k7 ?k8 ?k9 ?kB ?_ ?c2 ?c3 ?c4 ?c5; (case kA => exact rfl); (case kF => exact rfl); (case kK => assumption); (case k1 => k_asm); (case k2 => k_asm); (case k3 => k_asm); (case k4 => k_asm); (case k5 => k_asm); (case k6 => k_is); (case k7 => k_is); (case k8 => ktr_room); (case k9 => first | exact BindsTo.of_eq rfl | exact binds_K (by k_in) rfl (by k_is) rfl rfl rfl); (case c5 => decide); (case kB => exact locs rfl); (case c2 => exact rfl); (case c3 => exact rfl); (case c4 => exact rfl); k_whole; intro g' L' h' FG' F' N' B' X' T'; (try dsimp only); (try k_lift B'); (try k_fold))
  k_with "JoinP" => (dsimp only [JoinP])
  k_with "subscriptTail" => (k_here; (with_reducible show wpAny _ _ (subscriptTail _ _ (Value.str (S _) _) (Value.int _ _)) _ _ _); first | (with_reducible refine item_S (by k_dflt (first | assumption | omega | k_extra "my item")) (by k_dflt tb_start) ?_) | k_dflt (refine item_Si (by omega) (by first | omega | k_extra "my item") (by tb_start) ?_))
  k_with "compareOp Eq str str" => ((with_reducible show wpAny _ _ (compareOp CmpOp.Eq (Value.str (S _) _) (Value.str (Str.ofString _) _)) _ _ _); k_dflt (first | refine eq_lit [13] (by decide +kernel) ?_ | refine eq_lit [10] (by decide +kernel) ?_))
  k_with "compareOp NotEq str str" => ((with_reducible show wpAny _ _ (compareOp CmpOp.NotEq (Value.str (S _) _) (Value.str (Str.ofString _) _)) _ _ _); k_dflt (first | refine ne_lit [13] (by decide +kernel) ?_ | refine ne_lit [10] (by decide +kernel) ?_))
  k_with "inplaceOp Add str str" => ((with_reducible show wpAny _ _ (inplaceOp Operator.Add (Value.str (S _) _) (Value.str (Str.ofString _) _)) _ _ _); k_dflt (refine iadd_lit [10] (by decide +kernel) (by tb_start) ?_); intro _ _)
  k_with "getAttr ref" => ((with_reducible show wpAny _ _ (getAttr (Value.ref _) (Str.ofString "chunk") _) _ _ _); k_dflt (refine g_chunk (by assumption) (by k_asm) (by k_asm) ?N ?_; (case N => first | k_asm | exact News.tl (by k_asm) | exact News.tl (News.tl (by k_asm)) | exact News.tl (News.tl (News.tl (by k_asm))))); intro _)
  k_with "getAttr ref" => ((with_reducible show wpAny _ _ (getAttr (Value.ref _) (Str.ofString "chunkSize") _) _ _ _); k_dflt (refine g_size (by assumption) (by k_asm) (by k_asm) ?N ?_; (case N => first | k_asm | exact News.tl (by k_asm) | exact News.tl (News.tl (by k_asm)) | exact News.tl (News.tl (News.tl (by k_asm))))); intro _)
  k_with "getAttr ref" => ((with_reducible show wpAny _ _ (getAttr (Value.ref _) (Str.ofString "chunkOffset") _) _ _ _); k_dflt (refine g_off (by assumption) (by k_asm) (by k_asm) ?N ?_; (case N => first | k_asm | exact News.tl (by k_asm) | exact News.tl (News.tl (by k_asm)) | exact News.tl (News.tl (News.tl (by k_asm))))); intro _)
  k_with "getAttr ref" => ((with_reducible show wpAny _ _ (getAttr (Value.ref _) (Str.ofString "prevNumLines") _) _ _ _); k_dflt (refine g_pl (by assumption) (by k_asm) (by k_asm) ?N ?_; (case N => first | k_asm | exact News.tl (by k_asm) | exact News.tl (News.tl (by k_asm)) | exact News.tl (News.tl (News.tl (by k_asm))))); intro _)
  k_with "getAttr ref" => ((with_reducible show wpAny _ _ (getAttr (Value.ref _) (Str.ofString "prevNumCols") _) _ _ _); k_dflt (refine g_pc (by assumption) (by k_asm) (by k_asm) ?N ?_; (case N => first | k_asm | exact News.tl (by k_asm) | exact News.tl (News.tl (by k_asm)) | exact News.tl (News.tl (News.tl (by k_asm))))); intro _)
  k_with "getAttr ref" => ((with_reducible show wpAny _ _ (getAttr (Value.ref _) (Str.ofString "errors") _) _ _ _); k_dflt (refine g_errors (by assumption) (by k_asm) (by k_asm) ?N ?_; (case N => first | k_asm | exact News.tl (by k_asm) | exact News.tl (News.tl (by k_asm)) | exact News.tl (News.tl (News.tl (by k_asm))))); intro _ hE1)
  k_with "getAttr ref" => ((with_reducible show wpAny _ _ (getAttr (Value.ref _) (Str.ofString "dataStream") _) _ _ _); k_dflt (refine g_stream (by assumption) (by k_asm) (by k_asm) ?N ?_; (case N => first | k_asm | exact News.tl (by k_asm) | exact News.tl (News.tl (by k_asm)) | exact News.tl (News.tl (News.tl (by k_asm))))); intro _ hT1)
  k_with "getAttr ref" => ((with_reducible show wpAny _ _ (getAttr (Value.ref _) (Str.ofString "_bufferedCharacter") _) _ _ _); k_dflt (refine g_buf (by assumption) (by k_asm) (by k_asm) ?N ?_; (case N => first | k_asm | exact News.tl (by k_asm) | exact News.tl (News.tl (by k_asm)) | exact News.tl (News.tl (News.tl (by k_asm))))); intro _ hB1; (try cases hB1))
  k_with "getAttr ref" => ((with_reducible show wpAny _ _ (getAttr (Value.ref _) (Str.ofString "reportCharacterErrors") _) _ _ _); k_dflt (refine g_rep (by assumption) (by k_asm) (by k_asm) ?N ?_; (case N => first | k_asm | exact News.tl (by k_asm) | exact News.tl (News.tl (by k_asm)) | exact News.tl (News.tl (News.tl (by k_asm))))); intro _ hR1)
  k_with "getAttr ref" => ((with_reducible show wpAny _ _ (getAttr (Value.ref _) (Str.ofString "_defaultChunkSize") _) _ _ _); k_dflt (refine g_dflt (by assumption) (by k_asm) (by k_asm) ?N ?_; (case N => first | k_asm | exact News.tl (by k_asm) | exact News.tl (News.tl (by k_asm)) | exact News.tl (News.tl (News.tl (by k_asm))))); intro _)
  k_with "getAttr ref" => ((with_reducible show wpAny _ _ (getAttr (Value.ref _) (Str.ofString "text") _) _ _ _); k_dflt (refine g_text (by assumption) (by assumption) (by k_asm) (by k_asm) ?N ?_; (case N => first | k_asm | exact News.tl (by k_asm) | exact News.tl (News.tl (by k_asm)) | exact News.tl (News.tl (News.tl (by k_asm))))); intro _)
  k_with "getAttr ref" => ((with_reducible show wpAny _ _ (getAttr (Value.ref _) (Str.ofString "place") _) _ _ _); k_dflt (refine g_place (by assumption) (by assumption) (by k_asm) (by k_asm) ?N ?_; (case N => first | k_asm | exact News.tl (by k_asm) | exact News.tl (News.tl (by k_asm)) | exact News.tl (News.tl (News.tl (by k_asm))))); intro _)
  k_with "setAttr ref" => ((with_reducible show wpAny _ _ (setAttr (Value.ref _) (Str.ofString "chunk") _) _ _ _); (with_reducible rename LedR _ _ _ _ _ _ _ _ _ _ _ _ _ _ => hLo); k_dflt (refine s_chunk hLo (by k_asm) (by k_asm) ?N ?_; (case N => first | k_asm | exact News.tl (by k_asm) | exact News.tl (News.tl (by k_asm)) | exact News.tl (News.tl (News.tl (by k_asm))))); intro h' n' F' N' hL'; (try k_sweep); clear hLo)
  k_with "setAttr ref" => ((with_reducible show wpAny _ _ (setAttr (Value.ref _) (Str.ofString "chunk") (Value.str (Str.ofString "") _)) _ _ _); (with_reducible rename LedR _ _ _ _ _ _ _ _ _ _ _ _ _ _ => hLo); k_dflt (refine s_chunk0 hLo (by k_asm) (by k_asm) ?N ?_; (case N => first | k_asm | exact News.tl (by k_asm) | exact News.tl (News.tl (by k_asm)) | exact News.tl (News.tl (News.tl (by k_asm))))); intro h' n' F' N' hL'; (try k_sweep); clear hLo)
  k_with "setAttr ref" => ((with_reducible show wpAny _ _ (setAttr (Value.ref _) (Str.ofString "chunkSize") _) _ _ _); (with_reducible rename LedR _ _ _ _ _ _ _ _ _ _ _ _ _ _ => hLo); k_dflt (refine s_size hLo (by k_asm) (by k_asm) ?N ?_; (case N => first | k_asm | exact News.tl (by k_asm) | exact News.tl (News.tl (by k_asm)) | exact News.tl (News.tl (News.tl (by k_asm))))); intro h' n' F' N' hL'; (try k_sweep); clear hLo)
  k_with "setAttr ref" => ((with_reducible show wpAny _ _ (setAttr (Value.ref _) (Str.ofString "chunkOffset") _) _ _ _); (with_reducible rename LedR _ _ _ _ _ _ _ _ _ _ _ _ _ _ => hLo); k_dflt (refine s_off hLo (by k_asm) (by k_asm) ?N ?_; (case N => first | k_asm | exact News.tl (by k_asm) | exact News.tl (News.tl (by k_asm)) | exact News.tl (News.tl (News.tl (by k_asm))))); intro h' n' F' N' hL'; (try k_sweep); clear hLo)
  k_with "setAttr ref" => ((with_reducible show wpAny _ _ (setAttr (Value.ref _) (Str.ofString "prevNumLines") _) _ _ _); (with_reducible rename LedR _ _ _ _ _ _ _ _ _ _ _ _ _ _ => hLo); k_dflt (refine s_pl hLo (by k_asm) (by k_asm) ?N ?_; (case N => first | k_asm | exact News.tl (by k_asm) | exact News.tl (News.tl (by k_asm)) | exact News.tl (News.tl (News.tl (by k_asm))))); intro h' n' F' N' hL'; (try k_sweep); clear hLo)
  k_with "setAttr ref" => ((with_reducible show wpAny _ _ (setAttr (Value.ref _) (Str.ofString "prevNumCols") _) _ _ _); (with_reducible rename LedR _ _ _ _ _ _ _ _ _ _ _ _ _ _ => hLo); k_dflt (refine s_pc hLo (by k_asm) (by k_asm) ?N ?_; (case N => first | k_asm | exact News.tl (by k_asm) | exact News.tl (News.tl (by k_asm)) | exact News.tl (News.tl (News.tl (by k_asm))))); intro h' n' F' N' hL'; (try k_sweep); clear hLo)
  k_with "setAttr ref" => ((with_reducible show wpAny _ _ (setAttr (Value.ref _) (Str.ofString "_bufferedCharacter") _) _ _ _); (with_reducible rename LedR _ _ _ _ _ _ _ _ _ _ _ _ _ _ => hLo); k_dflt (refine s_buf (by first | exact BufIs.none | exact BufIs.some | assumption) hLo (by k_asm) (by k_asm) ?N ?_; (case N => first | k_asm | exact News.tl (by k_asm) | exact News.tl (News.tl (by k_asm)) | exact News.tl (News.tl (News.tl (by k_asm))))); intro h' n' F' N' hL'; (try k_sweep); clear hLo)
  k_with "setAttr ref" => ((with_reducible show wpAny _ _ (setAttr (Value.ref _) (Str.ofString "place") _) _ _ _); (with_reducible rename LedR _ _ _ _ _ _ _ _ _ _ _ _ _ _ => hLo); k_dflt (refine s_place hLo (by assumption) (by k_asm) (by k_asm) ?N ?_; (case N => first | k_asm | exact News.tl (by k_asm) | exact News.tl (News.tl (by k_asm)) | exact News.tl (News.tl (News.tl (by k_asm))))); intro h' n' F' N' hL'; (try k_sweep); clear hLo)
  k_with "getMethod ref" => ((with_reducible show wpAny _ _ (getMethod (Value.ref _) (Str.ofString "_position") _) _ _ _); k_dflt (refine m_pos_ (by assumption) (by k_asm) (by k_asm) ?N ?_; (case N => first | k_asm | exact News.tl (by k_asm) | exact News.tl (News.tl (by k_asm)) | exact News.tl (News.tl (News.tl (by k_asm))))))
  k_with "getMethod ref" => ((with_reducible show wpAny _ _ (getMethod (Value.ref _) (Str.ofString "position") _) _ _ _); k_dflt (refine m_pos (by assumption) (by k_asm) (by k_asm) ?N ?_; (case N => first | k_asm | exact News.tl (by k_asm) | exact News.tl (News.tl (by k_asm)) | exact News.tl (News.tl (News.tl (by k_asm))))))
  k_with "getMethod ref" => ((with_reducible show wpAny _ _ (getMethod (Value.ref _) (Str.ofString "char") _) _ _ _); k_dflt (refine m_char (by assumption) (by k_asm) (by k_asm) ?N ?_; (case N => first | k_asm | exact News.tl (by k_asm) | exact News.tl (News.tl (by k_asm)) | exact News.tl (News.tl (News.tl (by k_asm))))))
  k_with "getMethod ref" => ((with_reducible show wpAny _ _ (getMethod (Value.ref _) (Str.ofString "readChunk") _) _ _ _); k_dflt (refine m_chunk (by assumption) (by k_asm) (by k_asm) ?N ?_; (case N => first | k_asm | exact News.tl (by k_asm) | exact News.tl (News.tl (by k_asm)) | exact News.tl (News.tl (News.tl (by k_asm))))))
  k_with "getMethod ref" => ((with_reducible show wpAny _ _ (getMethod (Value.ref _) (Str.ofString "unget") _) _ _ _); k_dflt (refine m_unget (by assumption) (by k_asm) (by k_asm) ?N ?_; (case N => first | k_asm | exact News.tl (by k_asm) | exact News.tl (News.tl (by k_asm)) | exact News.tl (News.tl (News.tl (by k_asm))))))
  k_with "getMethod ref" => ((with_reducible show wpAny _ _ (getMethod (Value.ref _) (Str.ofString "charsUntil") _) _ _ _); k_dflt (refine m_until (by assumption) (by k_asm) (by k_asm) ?N ?_; (case N => first | k_asm | exact News.tl (by k_asm) | exact News.tl (News.tl (by k_asm)) | exact News.tl (News.tl (News.tl (by k_asm))))))
  k_with "getMethod ref" => ((with_reducible show wpAny _ _ (getMethod (Value.ref _) (Str.ofString "read") _) _ _ _); k_dflt (refine m_read (by assumption) (by assumption) (by k_asm) (by k_asm) ?N ?_; (case N => first | k_asm | exact News.tl (by k_asm) | exact News.tl (News.tl (by k_asm)) | exact News.tl (News.tl (News.tl (by k_asm))))))
  k_with "getMethod ref" => ((with_reducible show wpAny _ _ (getMethod (Value.ref _) (Str.ofString "reportCharacterErrors") _) _ _ _); k_dflt (refine m_rep (by assumption) (by k_asm) (by k_asm) ?N ?_; (case N => first | k_asm | exact News.tl (by k_asm) | exact News.tl (News.tl (by k_asm)) | exact News.tl (News.tl (News.tl (by k_asm))))); intro _ hR1)
  k_with "getMethod ref" => ((with_reducible show wpAny _ _ (getMethod (Value.ref _) (Str.ofString "append") _) _ _ _); k_dflt (refine m_append (by assumption) (by assumption) (by k_asm) (by k_asm) ?N ?_; (case N => first | k_asm | exact News.tl (by k_asm) | exact News.tl (News.tl (by k_asm)) | exact News.tl (News.tl (News.tl (by k_asm))))))
  k_with "call builtin:list.append" => ((with_reducible rename LedR _ _ _ _ _ _ _ _ _ _ _ _ _ _ => hLo); k_dflt (refine app_err hLo (by assumption) (by k_asm) (by k_asm) ?N (by omega) ?_; (case N => first | k_asm | exact News.tl (by k_asm) | exact News.tl (News.tl (by k_asm)) | exact News.tl (News.tl (News.tl (by k_asm))))); intro h' n' F' N' hL'; (try k_sweep); clear hLo)
  k_with "call ref" => ((with_reducible show wpAny _ _ (call (Value.ref 105) _) _ _ _); (with_reducible rename LedR _ _ _ _ _ _ _ _ _ _ _ _ _ _ => hLo); k_dflt ((obtain ⟨st1, e1, e2⟩ := inv_char_end hi hPl (by omega)); (obtain ⟨o1, o2, o3, o4, o5⟩ := inv_ok hi (by omega)); (refine' Spec.use (char_spec (st := st) hLo o1 o2 o3 o4) ?B ?F ?X ?N ?T ?hk ?hd ?hu ?_); (case B => k_asm); (case F => k_asm); (case X => k_asm); (case T => k_asm); (case hk => first | exact rfl | assumption); (case N => first | k_asm | exact News.tl (by k_asm) | exact News.tl (News.tl (by k_asm)) | exact News.tl (News.tl (News.tl (by k_asm)))); (case hd => ktr_room); (case hu => ktr_units); (intro r' n' h' tk' hR' hle' F' N'); (rw [e1] at hR'); (obtain ⟨hr', hL'⟩ := hR'); (cases hr'); (clear hLo); (unfold LedIs at hL'); (try dsimp only); (try k_fold)))
  k_with "compareOp Eq str str" => ((with_reducible show wpAny _ _ (compareOp CmpOp.Eq (Value.str (S _) _) (Value.str (S _) _)) _ _ _); k_dflt (refine eq_yes rfl ?_))
  k_steps
  · exact hret _ _ _ _ (by assumption) (by assumption)
end
section
variable {w : World} {mean : ExcName → Option Value} {mg mb : Str → Option Value} {R : List Nat} {rest : List (Addr × Obj)} {ad : List Nat} {x : Nat} {st : St} {news : List (Addr × Obj)}
/-- the frame between two turns of the law's for -/
def FrJ (x aC : Addr) (R : List Nat) (tx tr : Tok) (vt vs : Value) (st : St) (p : Nat) (m' : Str → Option Value) : Prop :=
  (∃ t, m' (Str.ofString "got") = some (.str (S ((norm R).take p)) t)) ∧ (∃ t, m' (Str.ofString "start") = some (.int (st.cut : Int) t)) ∧ (∃ t, m' (Str.ofString "taken") = some (.int (st.place : Int) t)) ∧
    (∀ z, z ≠ Str.ofString "n" → z ≠ Str.ofString "until" → z ≠ Str.ofString "sign" → z ≠ Str.ofString "got" → z ≠ Str.ofString "start" → z ≠ Str.ofString "taken" → m' z = baseM x aC R tx tr vt vs z)
theorem FrJ.lit {aC : Addr} {tx tr : Tok} {vt vs : Value} {p : Nat} {m' : Str → Option Value} (h : FrJ x aC R tx tr vt vs st p m') : ∃ (tp ts tt : Tok) (u0 u1 u2 : Option Value), m' = fun y => if y = Str.ofString "n" then u0 else if y = Str.ofString "until" then u1 else if y = Str.ofString "sign" then u2 else if y = Str.ofString "got" then some (.str (S ((norm R).take p)) tp) else if y = Str.ofString "start" then some (.int (st.cut : Int) ts) else if y = Str.ofString "taken" then some (.int (st.place : Int) tt) else baseM x aC R tx tr vt vs y := by
  obtain ⟨⟨tp, h1⟩, ⟨ts, h2⟩, ⟨tt, h3⟩, h4⟩ := h
  refine ⟨tp, ts, tt, m' (Str.ofString "n"), m' (Str.ofString "until"), m' (Str.ofString "sign"), ?_⟩
  funext z
  by_cases a1 : z = Str.ofString "n"
  · rw [if_pos a1, a1]
  by_cases a2 : z = Str.ofString "until"
  · rw [if_neg a1, if_pos a2, a2]
  by_cases a3 : z = Str.ofString "sign"
  · rw [if_neg a1, if_neg a2, if_pos a3, a3]
  by_cases a4 : z = Str.ofString "got"
  · rw [if_neg a1, if_neg a2, if_neg a3, if_pos a4, a4, h1]
  by_cases a5 : z = Str.ofString "start"
  · rw [if_neg a1, if_neg a2, if_neg a3, if_neg a4, if_pos a5, a5, h2]
  by_cases a6 : z = Str.ofString "taken"
  · rw [if_neg a1, if_neg a2, if_neg a3, if_neg a4, if_neg a5, if_pos a6, a6, h3]
  rw [if_neg a1, if_neg a2, if_neg a3, if_neg a4, if_neg a5, if_neg a6, h4 z a1 a2 a3 a4 a5 a6]
theorem inv_all {p : Nat} (hi : Inv R st p) (ho : st.off = st.chunk.length) (hp : st.place = R.length) (hb : st.buf = none) : p = (norm R).length := by
  have h := inv_until hi
  have hc : st.cut = R.length := by
    unfold St.cut
    rw [hb, hp]
    rfl
  rw [hc, List.take_length] at h
  omega
set_option maxRecDepth 100000 in
set_option maxHeartbeats 4000000 in
theorem for_spec (hL : LedIs w R rest ad x st news)
    {p : Nat} (hi : Inv R st p) (hoff : st.off = st.chunk.length) (hPl : Plain R) (hR : R.length ≤ 30) (hne0 : R ≠ []) (hcd : ∀ c ∈ R, ¬ (55296 ≤ c ∧ c ≤ 57343))
    {aC : Addr} {cvs : List Value} (hC : (aC, LCg.lst cvs) ∈ rest) (hCI : IntsAre cvs (R.map fun c : Nat => (c : Int)))
    {l : Addr} {vs : List Value} {ks : List Int} {nn : Nat} (hmem : (l, W.listOf vs.toArray nn) ∈ rest) (hI : IntsAre vs ks) (hlen : vs.length = R.length)
    (bd : List Stmt) (sc : Scope) (hb : forB = bd) (hs : lawSc = sc) {tx tr : Tok} {vt vc : Value} {m₀ : Str → Option Value} (hm : FrJ x aC R tx tr vt vc st p m₀)
    {dp un : Nat} {gd : Option (List Code)} {a : Addr} {ccd : Value} {cl : List (Str × Addr)} {outer : List Env} {A₀ : Around} {base h₀ : Heap} {L : Addr} {s : Shared} {Q : Flow → Shared → Prop} {E : Value → Shared → Prop} {xn : Str} (hx : xn = Str.ofString "n")
    (B : Below A₀ base outer h₀) (F : Fr h₀ L s.heap m₀)
    (X : (hd03.heap_39 w.params).In h₀) (N : News h₀ L s.heap news) (T : Top hd03.view_39 loose mean mg mb h₀) (hd : dp + 100 < recursionLimit) (hu : un + 800 < cLine) (hE : PassesOwn (model PySem.Challenge.pw_te0074_03 w) (ktrTop dp un gd (Str.ofString "law") sc L a ccd cl outer) (envOf (Str.ofString "law") sc L a ccd) E)
    (done : ∀ h' tk' m' st' p' nw', FrJ x aC R tx tr vt vc st' p' m' → Inv R st' p' → p' = (norm R).length → LedIs w R rest ad x st' nw' → Fr h₀ L h' m' → News h₀ L h' nw' → Q .next { s with heap := h', toks := tk' }) :
    wpAny (model PySem.Challenge.pw_te0074_03 w) (ktrTop dp un gd (Str.ofString "law") sc L a ccd cl outer) (pyIter (.ref l)) (fun it s₂ => LoopAtV PySem.Challenge.pw_te0074_03 w (ktrTop dp un gd (Str.ofString "law") sc L a ccd cl outer) h₀ (envOf (Str.ofString "law") sc L a ccd) xn bd Q E it s₂) E s := by
  subst hx
  have hRl : 0 < R.length := List.length_pos_iff.mpr hne0
  refine loop_Lm (env := envOf (Str.ofString "law") sc L a ccd) (fun _ i m' nx => ∃ (st' : St) (p' : Nat), FrJ x aC R tx tr vt vc st' p' m' ∧ Inv R st' p' ∧ st'.off = st'.chunk.length ∧ (2 * i ≤ st'.place ∨ R.length ≤ st'.place) ∧ (1 ≤ i → R.length ≤ 2 * (i - 1) ∨ R.length ≤ 1 → st'.buf = none) ∧ LedIs w R rest ad x st' nx) (by rfl) (LedR.mem_rest hL hmem) F N ⟨st, p, hm, hi, hoff, .inl (Nat.zero_le _), fun h => absurd h (by decide), hL⟩ ?_ ?_
  · intro i v m₁ nx h tk own hv hadr hown hlm hJ F' N'
    obtain ⟨st', p', hm', hi', ho', hpl, hbf, hL'⟩ := hJ
    obtain ⟨k, t, rfl, hk⟩ := IntsAre.at hI i v hv
    obtain ⟨tp, ts, tt, u0, u1, u2, rfl⟩ := hm'.lit
    have ha := LedR.addr hL
    rw [ha] at hown
    have hple : st'.place ≤ R.length := by
      obtain ⟨A, B, C, _, _, _, _, _, _, _, _, _, q⟩ := hi'
      exact q
    have F2 : Fr h₀ L h (fun y => if y = Str.ofString "n" then some (.int k t) else if y = Str.ofString "until" then u1 else if y = Str.ofString "sign" then u2 else if y = Str.ofString "got" then some (.str (S ((norm R).take p')) tp) else if y = Str.ofString "start" then some (.int (st'.cut : Int) ts) else if y = Str.ofString "taken" then some (.int (st'.place : Int) tt) else baseM x aC R tx tr vt vc y) := by
      rw [← cut_if (u := u0)]
      exact F'
    refine turn_spec (LedR.app hL' (fun p hp b hb => hown p hp b (List.mem_append.mpr (.inl hb)))) hi' ho' hPl hR hne0 hcd (List.mem_append.mpr (.inl hC)) hCI bd sc hb hs k t tp ts tt tx tr u1 u2 vt vc dp un gd a ccd cl outer A₀ base h₀ L _ _ E B F2 X N' T hd hu hE ?_
    intro h' tk' m' st2 p2 nw' c1 c2 c3 c4 hi2 ho2 hp2 hb2 hL2 Fe Ne
    have hple2 : st2.place ≤ R.length := by
      obtain ⟨A, B, C, _, _, _, _, _, _, _, _, _, q⟩ := hi2
      exact q
    exact led_end Fe Ne hL2 (by rw [ha]) (fun nx hnx => ⟨LedR.mem_rest hnx hmem, st2, p2, ⟨c1, c2, c3, c4⟩, hi2, ho2, by omega, fun _ hq => hb2 (by omega), hnx⟩)
  · intro m₁ nx h tk hlm hJ F' N'
    obtain ⟨st', p', hm', hi', ho', hpl, hbf, hL'⟩ := hJ
    have hple : st'.place ≤ R.length := by
      obtain ⟨A, B, C, _, _, _, _, _, _, _, _, _, q⟩ := hi'
      exact q
    exact done h tk m₁ st' p' nx hm' hi' (inv_all hi' ho' (by omega) (hbf (by omega) (by omega))) hL' F' N'
end
theorem ne_allLt {d : Addr} {l : List (Addr × Obj)} (h : AllLt d l) : ∀ p ∈ l, p.1 ≠ d := fun p hp => Nat.ne_of_lt (kst_ltOf h p hp)
theorem off_lt {d x q nl dT xT e : Nat} {rest : List (Addr × Obj)} (hA : d < x ∧ x < q ∧ q < nl ∧ nl < dT ∧ dT < xT ∧ xT < e) (h : ∀ p ∈ rest, p.1 < d) : OwnOff rest [e, xT, dT, nl, q, x, d] := fun p hp b hb => by
  have h1 : p.1 < d := h p hp
  have h2 : d ≤ b := by
    simp only [List.mem_cons, List.not_mem_nil, or_false] at hb
    rcases hb with h | h | h | h | h | h | h <;> subst h <;> omega
  exact Nat.ne_of_lt (Nat.lt_of_lt_of_le h1 h2)
section
variable {w : World} {mean : ExcName → Option Value} {mg mb : Str → Option Value} {news : List (Addr × Obj)}
set_option maxRecDepth 100000 in
set_option maxHeartbeats 8000000 in
/-- the stream is made -/
theorem new_spec (R : List Nat) (t : Tok) (hR : R.length ≤ 1000)
    {dp un : Nat} {gd : Option (List Code)} {cn : Str} {cs : Scope} {a : Addr} {ccd : Value} {cl : List (Str × Addr)} {outer : List Env} {A₀ : Around} {base h₀ : Heap} {L : Addr} {m : Str → Option Value} {s : Shared} {Q E : Value → Shared → Prop}
    (B : Below A₀ base outer h₀) (F : Fr h₀ L s.heap m) (X : (hd03.heap_39 w.params).In h₀) (N : News h₀ L s.heap news) (T : Top hd03.view_39 loose mean mg mb h₀) (hk : cs.kind = .function)
    (hd : dp + 30 < recursionLimit) (hu : un + 200 < cLine)
    (hret : ∀ ad x n' h' tk', LedIs w R news ad x ⟨[], 0, 0, 0, 0, none, 0⟩ n' → Fr h₀ L h' m → News h₀ L h' n' → Q (.ref x) { s with heap := h', toks := tk' }) :
    wpAny (model PySem.Challenge.pw_te0074_03 w) (ktrTop dp un gd cn cs L a ccd cl outer) (call (.ref 138) [.str (S R) t]) Q E s := by
  k_with_none
  k_with "tb" => (first | assumption | omega | (simp only [List.length_append, List.length_cons, List.length_nil, List.length_take, List.length_drop, List.length_dropLast, crs_len, partOf_len] at *; omega) | ((with_reducible refine Nat.le_trans (crlf_len _) ?_); tb_start) | ((with_reducible refine Nat.le_trans (split_len _) ?_); tb_start) | ((with_reducible refine Nat.le_trans (norm_len _) ?_); tb_start))
  k_with "call builtin:str.count" => (refine count4 (by decide +kernel) (by first | assumption | omega) ?_)
  k_with "call builtin:str.rfind" => (refine rfind4 (by decide +kernel) (by first | assumption | omega) ?_)
  k_with "call builtin:str.replace" => ((try dsimp only at *); k_dflt (refine repl_crlf_S (by decide +kernel) (by decide +kernel) (by k_ne) (by k_ne) (by k_ne) (by tb_start) ?_); intro _ _ _)
  k_with "call builtin:str.replace" => ((try dsimp only at *); k_dflt (refine repl_cr_S (by decide +kernel) (by decide +kernel) (by k_ne) (by k_ne) (by k_ne) (by tb_start) ?_); intro _ _ _)
  k_with "call builtin:len" => ((with_reducible show wpAny _ _ (call (Value.builtin "len") [Value.str (S _) _]) _ _ _); refine len_S (by tb_start) ?_)
  k_with "call builtin:ord" => ((with_reducible show wpAny _ _ (call (Value.builtin "ord") [Value.str (S _) _]) _ _ _); refine ord_S ?_)
  k_with "binaryOp Add str str" => ((with_reducible show wpAny _ _ (binaryOp Operator.Add (Value.str (S _) _) (Value.str (S _) _)) _ _ _); refine add_S (by tb_start) ?_; intro _ _)
  k_with "inplaceOp Add str str" => ((with_reducible show wpAny _ _ (inplaceOp Operator.Add (Value.str (S _) _) (Value.str (S _) _)) _ _ _); refine iadd_S (by tb_start) ?_; intro _ _)
  k_with "truthy str" => ((with_reducible show wpAny _ _ (truthy (Value.str (S _) _)) _ _ _); refine truthy_S (by tb_start) ?_)
  k_with "compareOp Eq str str" => ((with_reducible show wpAny _ _ (compareOp CmpOp.Eq (Value.str (S _) _) (Value.str (S _) _)) _ _ _); refine eq_S ?_)
  k_with "compareOp NotEq str str" => ((with_reducible show wpAny _ _ (compareOp CmpOp.NotEq (Value.str (S _) _) (Value.str (S _) _)) _ _ _); refine ne_S ?_)
  k_with "subscriptTail Name Slice str ref" => (k_here; (with_reducible rename Fr _ _ _ _ => F'); (with_reducible rename News _ _ _ _ => N'); k_dflt (refine drop_S (s := ⟨_, _, _, _, _⟩) F' N' (by tb_start) ?_); intro _ _ _ _ _; (try k_sweep))
  k_with "subscriptTail Name Slice str ref" => (k_here; (with_reducible rename Fr _ _ _ _ => F'); (with_reducible rename News _ _ _ _ => N'); k_dflt (refine take_S (s := ⟨_, _, _, _, _⟩) F' N' (by tb_start) ?_); intro _ _ _ _ _; (try k_sweep))
  k_with "subscriptTail Name Slice str ref" => (k_here; (with_reducible rename Fr _ _ _ _ => F'); (with_reducible rename News _ _ _ _ => N'); k_dflt (refine mid_S (s := ⟨_, _, _, _, _⟩) F' N' (by tb_start) ?_); intro _ _ _ _ _; (try k_sweep))
  k_with "subscriptTail Name Slice str ref" => (k_here; (with_reducible rename Fr _ _ _ _ => F'); (with_reducible rename News _ _ _ _ => N'); k_dflt (refine part_S (s := ⟨_, _, _, _, _⟩) F' N' (by tb_start) ?_); intro _ _ _ _ _; (try k_sweep))
  k_with "subscriptTail Name Slice str ref" => (k_here; (with_reducible rename Fr _ _ _ _ => F'); (with_reducible rename News _ _ _ _ => N'); k_dflt (refine init_S (s := ⟨_, _, _, _, _⟩) F' N' (by tb_start) ?_); intro _ _ _ _ _; (try k_sweep))
  k_with "subscriptTail Name UnaryOp str int" => (k_here; (with_reducible show wpAny _ _ (subscriptTail _ _ (Value.str (S _) _) (Value.int _ _)) _ _ _); k_dflt (first | (refine last_S (by first | assumption | (intro hz; simp only [hz, List.length_nil] at *; omega)) (by tb_start) ?_) | (refine item_S (by first | assumption | omega | k_extra "my item") (by tb_start) ?_)))
  k_with "subscriptTail Name Name str int" => (k_here; (with_reducible show wpAny _ _ (subscriptTail _ _ (Value.str (S _) _) (Value.int _ _)) _ _ _); first | (with_reducible refine item_S (by k_dflt (first | assumption | omega | k_extra "my item")) (by k_dflt tb_start) ?_) | k_dflt (refine item_Si (by omega) (by first | omega | k_extra "my item") (by tb_start) ?_))
  k_with "subscriptTail Name Constant str int" => (k_here; (with_reducible show wpAny _ _ (subscriptTail _ _ (Value.str (S _) _) (Value.int _ _)) _ _ _); first | (with_reducible refine item_S (by k_dflt (first | assumption | omega | k_extra "my item")) (by k_dflt tb_start) ?_) | k_dflt (refine item_Si (by omega) (by first | omega | k_extra "my item") (by tb_start) ?_))
  k_with "subscriptTail Name BinOp str int" => (k_here; (with_reducible show wpAny _ _ (subscriptTail _ _ (Value.str (S _) _) (Value.int _ _)) _ _ _); first | (with_reducible refine item_S (by k_dflt (first | assumption | omega | k_extra "my item")) (by k_dflt tb_start) ?_) | k_dflt (refine item_Si (by omega) (by first | omega | k_extra "my item") (by tb_start) ?_))
  k_with "subscriptTail Attribute Name str int" => (k_here; (with_reducible show wpAny _ _ (subscriptTail _ _ (Value.str (S _) _) (Value.int _ _)) _ _ _); first | (with_reducible refine item_S (by k_dflt (first | assumption | omega | k_extra "my item")) (by k_dflt tb_start) ?_) | k_dflt (refine item_Si (by omega) (by first | omega | k_extra "my item") (by tb_start) ?_))
  k_with "subscriptTail Attribute Constant str int" => (k_here; (with_reducible show wpAny _ _ (subscriptTail _ _ (Value.str (S _) _) (Value.int _ _)) _ _ _); first | (with_reducible refine item_S (by k_dflt (first | assumption | omega | k_extra "my item")) (by k_dflt tb_start) ?_) | k_dflt (refine item_Si (by omega) (by first | omega | k_extra "my item") (by tb_start) ?_))
  k_with "subscriptTail Attribute Attribute str int" => (k_here; (with_reducible show wpAny _ _ (subscriptTail _ _ (Value.str (S _) _) (Value.int _ _)) _ _ _); first | (with_reducible refine item_S (by k_dflt (first | assumption | omega | k_extra "my item")) (by k_dflt tb_start) ?_) | k_dflt (refine item_Si (by omega) (by first | omega | k_extra "my item") (by tb_start) ?_))
  k_with "truthy ref" => (k_here; k_dflt (refine' truthy_meth ?N ?q ?_; (case N => k_asm); (case q => k_mem); k_whole))
  k_with "exec For Name Name cons nil" => (k_here; (with_reducible rename Fr _ _ _ _ => lF'); k_dflt (refine' For_invVF lF' ?k1 ?k2 ?_; (case k1 => exact rfl); (case k2 => exact rfl); k_whole))
  k_with "exec For Name Subscript cons nil" => (k_here; (with_reducible rename Fr _ _ _ _ => lF'); k_dflt (refine' For_invVF lF' ?k1 ?k2 ?_; (case k1 => exact rfl); (case k2 => exact rfl); k_whole))
  k_with "all" => (refine List.forall_mem_append.mpr ⟨?a, ?b⟩; (case a => k_all); (case b => k_all))
  k_with "rel" => (simp only [List.size_toArray]; rw [PySem.sizeLine_eq]; omega)
  k_with "call builtin:list.append" => (k_here; (with_reducible show wpAny _ _ (call (Value.builtin _) [Value.ref _, _]) _ _ _); k_dflt (refine' append_K ?k1 ?k2 ?k3 ?_ ?z; (case k1 => k_asm); (case k2 => k_asm); (case k3 => k_upd); (case z => tb_rel); k_whole); intro h' F' N'; (try simp only [List.push_toArray] at N'); (try k_sweep))
  k_with "enter" => (refine' code_def ?k1 ?k2 ?k3 ?k4 ?k5 ?kA ?kF ?kK ?k6 ?k7 ?k8 ?k9 ?kB ?_ ?c2 ?c3 ?c4 ?c5; (case kA => exact rfl); (case kF => exact rfl); (case kK => assumption); (case k1 => k_asm); (case k2 => k_asm); (case k3 => k_asm); (case k4 => k_asm); (case k5 => k_asm); (case k6 => k_is); (case k7 => k_is); (case k8 => ktr_room); (case k9 => first | exact BindsTo.of_eq rfl | exact binds_K (by k_in) rfl (by k_is) rfl rfl rfl); (case c5 => decide); (case kB => exact locs rfl); (case c2 => exact rfl); (case c3 => exact rfl); (case c4 => exact rfl); k_whole; intro g' L' h' FG' F' N' B' X' T'; (try dsimp only); (try k_lift B'); (try k_fold))
  k_with "JoinP" => (dsimp only [JoinP])
  k_with "subscriptTail" => (k_here; (with_reducible show wpAny _ _ (subscriptTail _ _ (Value.str (S _) _) (Value.int _ _)) _ _ _); first | (with_reducible refine item_S (by k_dflt (first | assumption | omega | k_extra "my item")) (by k_dflt tb_start) ?_) | k_dflt (refine item_Si (by omega) (by first | omega | k_extra "my item") (by tb_start) ?_))
  k_with "compareOp Eq str str" => ((with_reducible show wpAny _ _ (compareOp CmpOp.Eq (Value.str (S _) _) (Value.str (Str.ofString _) _)) _ _ _); k_dflt (first | refine eq_lit [13] (by decide +kernel) ?_ | refine eq_lit [10] (by decide +kernel) ?_))
  k_with "compareOp NotEq str str" => ((with_reducible show wpAny _ _ (compareOp CmpOp.NotEq (Value.str (S _) _) (Value.str (Str.ofString _) _)) _ _ _); k_dflt (first | refine ne_lit [13] (by decide +kernel) ?_ | refine ne_lit [10] (by decide +kernel) ?_))
  k_with "inplaceOp Add str str" => ((with_reducible show wpAny _ _ (inplaceOp Operator.Add (Value.str (S _) _) (Value.str (Str.ofString _) _)) _ _ _); k_dflt (refine iadd_lit [10] (by decide +kernel) (by tb_start) ?_); intro _ _)
  k_with "setAttr ref" => (k_here; k_dflt (refine' set_dict ?sk1 ?sk2 ?sk3 ?sk4 ?sk5 ?sk6 ?sk7 ?sk8 ?sk9 ?sk10 ?sk11 ?sk12 ?sk13 ?_; (case sk1 => k_asm); (case sk2 => k_asm); (case sk3 => k_asm); (case sk4 => k_inst); (case sk5 => exact rfl); (case sk6 => k_is); (case sk7 => k_is); (case sk8 => k_is); (case sk9 => k_is); (case sk10 => k_get); (case sk11 => k_put); (case sk12 => k_upd); (case sk13 => exact Nat.le_of_ble_eq_true rfl); k_whole); intro h' F' N'; (try dsimp only at N'); (try k_sweep))
  k_with "ne" => (refine neN ?_; first | exact Nat.ne_of_gt (by assumption) | exact Nat.ne_of_gt (And.left (by assumption)) | exact Nat.ne_of_gt (And.left (And.right (by assumption))) | exact Nat.ne_of_gt (And.left (And.right (And.right (by assumption)))) | exact Nat.ne_of_gt (And.left (And.right (And.right (And.right (by assumption))))) | exact Nat.ne_of_gt (And.left (And.right (And.right (And.right (And.right (by assumption)))))) | exact Nat.ne_of_lt (by assumption) | exact Nat.ne_of_lt (And.left (by assumption)) | exact Nat.ne_of_lt (And.left (And.right (by assumption))) | exact Nat.ne_of_lt (And.left (And.right (And.right (by assumption)))) | exact Nat.ne_of_lt (And.left (And.right (And.right (And.right (by assumption))))) | exact Nat.ne_of_lt (And.left (And.right (And.right (And.right (And.right (by assumption)))))))
  k_with "setAttr ref" => ((with_reducible show wpAny _ _ (setAttr (Value.ref _) _ (Value.str (Str.ofString "") _)) _ _ _); rw [of_empty])
  k_with "all" => (first | exact ne_allLt (by assumption) | exact ne_allLt (And.right (by assumption)) | exact ne_allLt (And.right (And.right (by assumption))) | exact ne_allLt (And.right (And.right (And.right (by assumption)))) | exact ne_allLt (And.right (And.right (And.right (And.right (by assumption))))) | exact ne_allLt (And.right (And.right (And.right (And.right (And.right (by assumption)))))))
  k_dflt (refine' call_cls ?k1 ?k2 ?k3 ?k4 ?k5 ?k6 ?_; (case k1 => k_asm); (case k2 => k_asm); (case k3 => k_asm); (case k4 => k_is); (case k5 => k_is); (case k6 => k_is); k_whole; intro x' d' h' F' N' l1 l2; (try k_lt l1); (try k_lt2 l2); (try k_sweep); k_extra "enter")
  k_steps
  · have hA : ∀ {d x q nl dT xT e : Nat}, (d < x) → (x < q) → (q < nl) → (nl < dT) → (dT < xT) → (xT < e) → d < x ∧ x < q ∧ q < nl ∧ nl < dT ∧ dT < xT ∧ xT < e := fun a b c d e f => ⟨a, b, c, d, e, f⟩
    have hA2 := hA l2 (And.left (by assumption)) (And.left (by assumption)) (And.left (by assumption)) (by assumption) (And.left (by assumption))
    exact hret _ _ _ _ _ (.mk (ev := []) hA2 (off_lt hA2 l1) .nil .none) (by assumption) (by assumption)
end
def tape3 (ns : List Int) : List Int := ns.take 15 ++ [(ns.length : Int)]
theorem tape3_len (ns : List Int) : (tape3 ns).length ≤ 16 := by
  unfold tape3
  rw [List.length_append, List.length_take, List.length_singleton]
  omega
def raw3 (ns : List Int) : List Nat := (tape3 ns).map code
theorem raw3_len (ns : List Int) : (raw3 ns).length = (tape3 ns).length := by unfold raw3; rw [List.length_map]
theorem raw3_plain (ns : List Int) : ∀ c ∈ raw3 ns, ¬ (55296 ≤ c ∧ c ≤ 57343) := by
  intro c hc
  obtain ⟨k, _, rfl⟩ := List.mem_map.mp hc
  exact code_plain k
theorem raw3_lt (ns : List Int) : ∀ c ∈ raw3 ns, c < 1114112 := by
  intro c hc
  obtain ⟨k, _, rfl⟩ := List.mem_map.mp hc
  exact code_lt k
theorem plain_of {R : List Nat} (h : ∀ c ∈ R, ¬ (55296 ≤ c ∧ c ≤ 57343)) : Plain R := by
  intro c hc hw
  have h1 := h c hc
  simp only [waits, Bool.or_eq_true, beq_iff_eq, Bool.and_eq_true, decide_eq_true_eq] at hw
  omega
theorem raw3_ne (ns : List Int) : raw3 ns ≠ [] := by
  intro e
  have h := congrArg List.length e
  rw [raw3_len] at h
  unfold tape3 at h
  rw [List.length_append, List.length_singleton] at h
  simp at h
theorem raw3_ints (ns : List Int) : ((tape3 ns).map fun n => ((code n : Nat) : Int)) = (raw3 ns).map fun c : Nat => (c : Int) := by unfold raw3; rw [List.map_map]; rfl
theorem take_snoc {α β : Type} {l : List α} {i : Nat} {k : α} (f : α → β) (h : l[i]? = some k) : (l.take (i + 1)).map f = (l.take i).map f ++ [f k] := by
  rw [List.take_add_one, h]
  simp
theorem flat_one : ∀ l : List Nat, (l.map fun c => [c]).flatten = l
  | [] => rfl
  | a :: r => by rw [List.map_cons, List.flatten_cons, flat_one r]; rfl
theorem one_len {R : List Nat} : ∀ l ∈ R.map (fun c => [c]), l.length ≤ 100 := by
  intro l hl
  obtain ⟨z, _, rfl⟩ := List.mem_map.mp hl
  show 1 ≤ 100
  decide
theorem chr_nat (c : Nat) (t : Tok) : Value.str ⟨#[((c : Nat) : Int).toNat]⟩ t = Value.str (S [c]) t := by rw [Int.toNat_natCast]
section
variable {R : List Nat} {x aC : Addr}
theorem base_eq {tx tr : Tok} {vt vc : Value} {z : Str} : (if z = Str.ofString "stream" then some (Value.ref x) else if z = Str.ofString "text" then some (Value.str (S (norm R)) tx) else if z = Str.ofString "raw" then some (Value.str (S R) tr) else if z = Str.ofString "codes" then some (Value.ref aC) else if z = Str.ofString "tape" then some vt else List.lookup z [(Str.ofString "script", vc)].reverse) = baseM x aC R tx tr vt vc z := by
  unfold baseM
  by_cases a1 : z = Str.ofString "stream"
  · subst a1; rfl
  by_cases a2 : z = Str.ofString "text"
  · subst a2; rfl
  by_cases a3 : z = Str.ofString "raw"
  · subst a3; rfl
  by_cases a5 : z = Str.ofString "codes"
  · subst a5; rfl
  by_cases a4 : z = Str.ofString "tape"
  · subst a4; rfl
  rw [if_neg a1, if_neg a2, if_neg a3, if_neg a5, if_neg a4]
  have b1 : (z == Str.ofString "stream") = false := beq_false_of_ne a1
  have b2 : (z == Str.ofString "text") = false := beq_false_of_ne a2
  have b3 : (z == Str.ofString "raw") = false := beq_false_of_ne a3
  have b4 : (z == Str.ofString "tape") = false := beq_false_of_ne a4
  have b5 : (z == Str.ofString "codes") = false := beq_false_of_ne a5
  simp only [List.lookup, b1, b2, b3, b4, b5, List.reverse_cons, List.reverse_nil, List.nil_append]
end
set_option maxRecDepth 100000 in
set_option maxHeartbeats 16000000 in
theorem walk : PySem.Challenge.rw_te0074_03.Holds := by
  refine hd03 ?_
  k_go0
  all_goals (try k_fold)
  rename World => w
  rename List Int => ns
  k_with_none
  k_with "tb" => (first | assumption | omega | (simp only [List.length_append, List.length_cons, List.length_nil, List.length_take, List.length_drop, List.length_dropLast, crs_len, partOf_len] at *; omega) | ((with_reducible refine Nat.le_trans (crlf_len _) ?_); tb_start) | ((with_reducible refine Nat.le_trans (split_len _) ?_); tb_start) | ((with_reducible refine Nat.le_trans (norm_len _) ?_); tb_start))
  k_with "call builtin:str.count" => (refine count4 (by decide +kernel) (by first | assumption | omega) ?_)
  k_with "call builtin:str.rfind" => (refine rfind4 (by decide +kernel) (by first | assumption | omega) ?_)
  k_with "call builtin:str.replace" => ((try dsimp only at *); k_dflt (refine repl_crlf_S (by decide +kernel) (by decide +kernel) (by k_ne) (by k_ne) (by k_ne) (by tb_start) ?_); intro _ _ _)
  k_with "call builtin:str.replace" => ((try dsimp only at *); k_dflt (refine repl_cr_S (by decide +kernel) (by decide +kernel) (by k_ne) (by k_ne) (by k_ne) (by tb_start) ?_); intro _ _ _)
  k_with "call builtin:len" => ((with_reducible show wpAny _ _ (call (Value.builtin "len") [Value.str (S _) _]) _ _ _); refine len_S (by tb_start) ?_)
  k_with "call builtin:ord" => ((with_reducible show wpAny _ _ (call (Value.builtin "ord") [Value.str (S _) _]) _ _ _); refine ord_S ?_)
  k_with "binaryOp Add str str" => ((with_reducible show wpAny _ _ (binaryOp Operator.Add (Value.str (S _) _) (Value.str (S _) _)) _ _ _); refine add_S (by tb_start) ?_; intro _ _)
  k_with "inplaceOp Add str str" => ((with_reducible show wpAny _ _ (inplaceOp Operator.Add (Value.str (S _) _) (Value.str (S _) _)) _ _ _); refine iadd_S (by tb_start) ?_; intro _ _)
  k_with "truthy str" => ((with_reducible show wpAny _ _ (truthy (Value.str (S _) _)) _ _ _); refine truthy_S (by tb_start) ?_)
  k_with "compareOp Eq str str" => ((with_reducible show wpAny _ _ (compareOp CmpOp.Eq (Value.str (S _) _) (Value.str (S _) _)) _ _ _); refine eq_S ?_)
  k_with "compareOp NotEq str str" => ((with_reducible show wpAny _ _ (compareOp CmpOp.NotEq (Value.str (S _) _) (Value.str (S _) _)) _ _ _); refine ne_S ?_)
  k_with "subscriptTail Name Slice str ref" => (k_here; (with_reducible rename Fr _ _ _ _ => F'); (with_reducible rename News _ _ _ _ => N'); k_dflt (refine drop_S (s := ⟨_, _, _, _, _⟩) F' N' (by tb_start) ?_); intro _ _ _ _ _; (try k_sweep))
  k_with "subscriptTail Name Slice str ref" => (k_here; (with_reducible rename Fr _ _ _ _ => F'); (with_reducible rename News _ _ _ _ => N'); k_dflt (refine take_S (s := ⟨_, _, _, _, _⟩) F' N' (by tb_start) ?_); intro _ _ _ _ _; (try k_sweep))
  k_with "subscriptTail Name Slice str ref" => (k_here; (with_reducible rename Fr _ _ _ _ => F'); (with_reducible rename News _ _ _ _ => N'); k_dflt (refine mid_S (s := ⟨_, _, _, _, _⟩) F' N' (by tb_start) ?_); intro _ _ _ _ _; (try k_sweep))
  k_with "subscriptTail Name Slice str ref" => (k_here; (with_reducible rename Fr _ _ _ _ => F'); (with_reducible rename News _ _ _ _ => N'); k_dflt (refine part_S (s := ⟨_, _, _, _, _⟩) F' N' (by tb_start) ?_); intro _ _ _ _ _; (try k_sweep))
  k_with "subscriptTail Name Slice str ref" => (k_here; (with_reducible rename Fr _ _ _ _ => F'); (with_reducible rename News _ _ _ _ => N'); k_dflt (refine init_S (s := ⟨_, _, _, _, _⟩) F' N' (by tb_start) ?_); intro _ _ _ _ _; (try k_sweep))
  k_with "subscriptTail Name UnaryOp str int" => (k_here; (with_reducible show wpAny _ _ (subscriptTail _ _ (Value.str (S _) _) (Value.int _ _)) _ _ _); k_dflt (first | (refine last_S (by first | assumption | (intro hz; simp only [hz, List.length_nil] at *; omega)) (by tb_start) ?_) | (refine item_S (by first | assumption | omega | k_extra "my item") (by tb_start) ?_)))
  k_with "subscriptTail Name Name str int" => (k_here; (with_reducible show wpAny _ _ (subscriptTail _ _ (Value.str (S _) _) (Value.int _ _)) _ _ _); first | (with_reducible refine item_S (by k_dflt (first | assumption | omega | k_extra "my item")) (by k_dflt tb_start) ?_) | k_dflt (refine item_Si (by omega) (by first | omega | k_extra "my item") (by tb_start) ?_))
  k_with "subscriptTail Name Constant str int" => (k_here; (with_reducible show wpAny _ _ (subscriptTail _ _ (Value.str (S _) _) (Value.int _ _)) _ _ _); first | (with_reducible refine item_S (by k_dflt (first | assumption | omega | k_extra "my item")) (by k_dflt tb_start) ?_) | k_dflt (refine item_Si (by omega) (by first | omega | k_extra "my item") (by tb_start) ?_))
  k_with "subscriptTail Name BinOp str int" => (k_here; (with_reducible show wpAny _ _ (subscriptTail _ _ (Value.str (S _) _) (Value.int _ _)) _ _ _); first | (with_reducible refine item_S (by k_dflt (first | assumption | omega | k_extra "my item")) (by k_dflt tb_start) ?_) | k_dflt (refine item_Si (by omega) (by first | omega | k_extra "my item") (by tb_start) ?_))
  k_with "subscriptTail Attribute Name str int" => (k_here; (with_reducible show wpAny _ _ (subscriptTail _ _ (Value.str (S _) _) (Value.int _ _)) _ _ _); first | (with_reducible refine item_S (by k_dflt (first | assumption | omega | k_extra "my item")) (by k_dflt tb_start) ?_) | k_dflt (refine item_Si (by omega) (by first | omega | k_extra "my item") (by tb_start) ?_))
  k_with "subscriptTail Attribute Constant str int" => (k_here; (with_reducible show wpAny _ _ (subscriptTail _ _ (Value.str (S _) _) (Value.int _ _)) _ _ _); first | (with_reducible refine item_S (by k_dflt (first | assumption | omega | k_extra "my item")) (by k_dflt tb_start) ?_) | k_dflt (refine item_Si (by omega) (by first | omega | k_extra "my item") (by tb_start) ?_))
  k_with "subscriptTail Attribute Attribute str int" => (k_here; (with_reducible show wpAny _ _ (subscriptTail _ _ (Value.str (S _) _) (Value.int _ _)) _ _ _); first | (with_reducible refine item_S (by k_dflt (first | assumption | omega | k_extra "my item")) (by k_dflt tb_start) ?_) | k_dflt (refine item_Si (by omega) (by first | omega | k_extra "my item") (by tb_start) ?_))
  k_with "truthy ref" => (k_here; k_dflt (refine' truthy_meth ?N ?q ?_; (case N => k_asm); (case q => k_mem); k_whole))
  k_with "exec For Name Name cons nil" => (k_here; (with_reducible rename Fr _ _ _ _ => lF'); k_dflt (refine' For_invVF lF' ?k1 ?k2 ?_; (case k1 => exact rfl); (case k2 => exact rfl); k_whole))
  k_with "exec For Name Subscript cons nil" => (k_here; (with_reducible rename Fr _ _ _ _ => lF'); k_dflt (refine' For_invVF lF' ?k1 ?k2 ?_; (case k1 => exact rfl); (case k2 => exact rfl); k_whole))
  k_with "all" => (refine List.forall_mem_append.mpr ⟨?a, ?b⟩; (case a => k_all); (case b => k_all))
  k_with "rel" => (simp only [List.size_toArray]; rw [PySem.sizeLine_eq]; omega)
  k_with "call builtin:list.append" => (k_here; (with_reducible show wpAny _ _ (call (Value.builtin _) [Value.ref _, _]) _ _ _); k_dflt (refine' append_K ?k1 ?k2 ?k3 ?_ ?z; (case k1 => k_asm); (case k2 => k_asm); (case k3 => k_upd); (case z => tb_rel); k_whole); intro h' F' N'; (try simp only [List.push_toArray] at N'); (try k_sweep))
  k_with "enter" => (refine' code_def ?k1 ?k2 ?k3 ?k4 ?k5 ?kA ?kF ?kK ?k6 ?k7 ?k8 ?k9 ?kB ?_ ?c2 ?c3 ?c4 ?c5; (case kA => exact rfl); (case kF => exact rfl); (case kK => assumption); (case k1 => k_asm); (case k2 => k_asm); (case k3 => k_asm); (case k4 => k_asm); (case k5 => k_asm); (case k6 => k_is); (case k7 => k_is); (case k8 => ktr_room); (case k9 => first | exact BindsTo.of_eq rfl | exact binds_K (by k_in) rfl (by k_is) rfl rfl rfl); (case c5 => decide); (case kB => exact locs rfl); (case c2 => exact rfl); (case c3 => exact rfl); (case c4 => exact rfl); k_whole; intro g' L' h' FG' F' N' B' X' T'; (try dsimp only); (try k_lift B'); (try k_fold))
  k_with "JoinP" => (dsimp only [JoinP])
  k_with "subscriptTail" => (k_here; (with_reducible show wpAny _ _ (subscriptTail _ _ (Value.str (S _) _) (Value.int _ _)) _ _ _); first | (with_reducible refine item_S (by k_dflt (first | assumption | omega | k_extra "my item")) (by k_dflt tb_start) ?_) | k_dflt (refine item_Si (by omega) (by first | omega | k_extra "my item") (by tb_start) ?_))
  k_with "compareOp Eq str str" => ((with_reducible show wpAny _ _ (compareOp CmpOp.Eq (Value.str (S _) _) (Value.str (Str.ofString _) _)) _ _ _); k_dflt (first | refine eq_lit [13] (by decide +kernel) ?_ | refine eq_lit [10] (by decide +kernel) ?_))
  k_with "compareOp NotEq str str" => ((with_reducible show wpAny _ _ (compareOp CmpOp.NotEq (Value.str (S _) _) (Value.str (Str.ofString _) _)) _ _ _); k_dflt (first | refine ne_lit [13] (by decide +kernel) ?_ | refine ne_lit [10] (by decide +kernel) ?_))
  k_with "inplaceOp Add str str" => ((with_reducible show wpAny _ _ (inplaceOp Operator.Add (Value.str (S _) _) (Value.str (Str.ofString _) _)) _ _ _); k_dflt (refine iadd_lit [10] (by decide +kernel) (by tb_start) ?_); intro _ _)
  k_with "eval ListComp" => ((with_reducible show wpAny _ _ (eval (Expr.ListComp (Expr.Call _ _ _ _) _ _ _) _) _ _ _); k_dflt (refine LCg.ListComp_U (F₀ := by k_asm) (by with_unfolding_all rfl) (by decide) (by rfl) (by decide) (by rfl) ?_))
  k_with "call ref" => ((with_reducible show wpAny _ _ (call (Value.ref 156) _) _ _ _); k_dflt ((refine' Spec.use (code_spec _ _ _) ?B ?F ?X ?N ?T ?hk ?hd ?hu ?_); (case B => k_asm); (case F => k_asm); (case X => k_asm); (case T => k_asm); (case hk => first | exact rfl | assumption); (case N => first | k_asm | exact News.tl (by k_asm) | exact News.tl (News.tl (by k_asm)) | exact News.tl (News.tl (News.tl (by k_asm)))); (case hd => ktr_room); (case hu => ktr_units); (intro r' n' h' tk' hR' hle' F' N'); (obtain ⟨⟨tc, hr'⟩, hn'⟩ := hR'); subst hr'; subst hn'; (try dsimp only); (try k_fold)))
  repeat' ((fail_if_success (with_reducible show LCg.CompSrc _ _ _ _ _ _ _ _ _ _ _ _ _ _)); first | (k_unfold; (try dsimp only)) | (k_end; wrow_close) | walk1 | (dsimp only; walk1) | (leave1; try dsimp only))
  (rename IntsAre _ (_ ++ _) => hIt)
  have hIt' : IntsAre _ (tape3 ns) := hIt
  have hTl := tape3_len ns
  have hTl2 := IntsAre.length hIt'
  k_dflt (refine LCg.CompSrc.ledger (by rfl) (by k_asm) (by k_asm) (by k_mem) (by size_fits) ?_); intro g'
  k_dflt (refine rest_inv (fun i ys nw => nw = _ ∧ IntsAre ys (((tape3 ns).take i).map fun n => ((code n : Nat) : Int))) ⟨rfl, .nil⟩ ?ca ?cb)
  case ca =>
    intro i v ys nw I oI C oC D m₂ h tk E' hi hP hJ hC hx F' N' off ne
    obtain ⟨rfl, hS⟩ := hJ
    obtain ⟨k, t, rfl, hk⟩ := IntsAre.at hIt' i v (by simpa using hP)
    (try simp only [LCg.Off3, and_true] at off)
    (try k_fold)
    k_steps
    rw [take_snoc (l := tape3 ns) _ hk]
    exact ksk_snoc hS
  case cb =>
    rintro ys nw ⟨rfl, hS⟩
    have hlt : ∀ m : Nat, m = (tape3 ns).length → (tape3 ns).take m = tape3 ns := fun m h => by rw [h, List.take_length]
    rw [hlt _ (by rw [List.size_toArray]; exact hTl2), raw3_ints] at hS
    have hcd := raw3_plain ns
    have hcl := raw3_lt ns
    have hne0 := raw3_ne ns
    have hrl := raw3_len ns
    obtain ⟨R, hR⟩ : ∃ R, raw3 ns = R := ⟨_, rfl⟩
    rw [hR] at hS hcd hcl hne0 hrl
    have hyl : ys.length = R.length := by have := IntsAre.length hS; rw [List.length_map] at this; exact this
    have hR30 : R.length ≤ 30 := by omega
    (try k_fold)
    repeat' ((fail_if_success (with_reducible show LCg.CompSrc _ _ _ _ _ _ _ _ _ _ _ _ _ _)); first | (k_unfold; (try dsimp only)) | (k_end; wrow_close) | walk1 | (dsimp only; walk1) | (leave1; try dsimp only))
    k_dflt (refine LCg.CompSrc.ledger (by rfl) (by k_asm) (by k_asm) (by k_mem) (by rw [List.size_toArray, PySem.sizeLine_eq]; omega) ?_); intro g2
    k_dflt (refine rest_inv (fun i zs nw => nw = _ ∧ StrsAre zs ((R.take i).map fun c => S [c])) ⟨rfl, .nil⟩ ?cc ?cd)
    case cc =>
      intro i v zs nw I oI C oC D m₂ h tk E' hi hP hJ hC hx F' N' off ne
      obtain ⟨rfl, hZ⟩ := hJ
      obtain ⟨k, t, rfl, hk⟩ := IntsAre.at hS i v (by simpa using hP)
      rw [List.getElem?_map] at hk
      obtain ⟨c, hc, rfl⟩ := Option.map_eq_some_iff.mp hk
      have hcl2 := hcl c (List.mem_of_getElem? hc)
      (try simp only [LCg.Off3, and_true] at off)
      (try k_fold)
      k_steps
      rw [chr_nat, take_snoc (l := R) _ hc]
      exact kct_snoc hZ
    case cd =>
      rintro zs nw ⟨rfl, hZ⟩
      rw [List.size_toArray, hyl, List.take_length] at hZ
      have hZ' : StrsAre zs ((R.map fun c => [c]).map S) := by rw [List.map_map]; exact hZ
      k_with "call builtin:str.join" => (k_dflt (refine join_S (ls := R.map fun c => [c]) (flat_one R) of_empty (News.isList (by k_asm) (by k_mem)) hZ' (by rw [List.length_map]; omega) one_len ?_); intro t' k')
      k_with "call ref" => ((with_reducible show wpAny _ _ (call (Value.ref 170) _) _ _ _); k_dflt ((refine' Spec.use (mended_spec _ _ (by omega) _) ?B ?F ?X ?N ?T ?hk ?hd ?hu ?_); (case B => k_asm); (case F => k_asm); (case X => k_asm); (case T => k_asm); (case hk => first | exact rfl | assumption); (case N => first | k_asm | exact News.tl (by k_asm) | exact News.tl (News.tl (by k_asm)) | exact News.tl (News.tl (News.tl (by k_asm)))); (case hd => ktr_room); (case hu => ktr_units); (intro r' n' h' tk' hR' hle' F' N'); (obtain ⟨⟨tm, hr'⟩, hn'⟩ := hR'); subst hr'; subst hn'; (try dsimp only); (try k_fold)))
      k_with "call ref" => ((with_reducible show wpAny _ _ (call (Value.ref 138) _) _ _ _); k_dflt ((refine' new_spec R _ (by omega) ?B ?F ?X ?N ?T ?hk ?hd ?hu ?_); (case B => k_asm); (case F => k_asm); (case X => k_asm); (case T => k_asm); (case hk => first | exact rfl | assumption); (case N => k_asm); (case hd => ktr_room); (case hu => ktr_units); (intro ad x n' h' tk' hL' F' N'); (try k_sweep); (try dsimp only); (try k_fold)))
      (try k_fold)
      repeat' ((fail_if_success (with_reducible show wpAny _ _ (pyIter _) _ _ _)); first | (k_unfold; (try dsimp only)) | (k_end; wrow_close) | walk1 | (dsimp only; walk1) | (leave1; try dsimp only))
      (rename Fr _ _ _ _ => F9)
      (rename News _ _ _ _ => N9)
      (rename LedR _ _ _ _ _ _ _ _ _ _ _ _ _ _ => hL9)
      k_dflt (refine' for_spec (st := ⟨[], 0, 0, 0, 0, none, 0⟩) (p := 0) hL9 inv_start rfl (plain_of hcd) hR30 hne0 hcd ?fC hS ?fmem hIt' ?fl _ _ rfl rfl ?fm rfl ?B F9 ?X N9 ?T ?hd ?hu ?hE ?done)
      (case fC => exact .tail _ (.head _))
      (case fmem => exact .tail _ (.tail _ (.head _)))
      (case fl => omega)
      (case B => k_asm)
      (case X => k_asm)
      (case T => k_asm)
      (case hd => ktr_room)
      (case hu => ktr_units)
      (case hE => passes_own)
      (case fm => exact ⟨⟨_, by rw [of_empty]; rfl⟩, ⟨_, rfl⟩, ⟨_, rfl⟩, fun z a1 a2 a3 a4 a5 a6 => by simp only [a4, a5, a6, if_false]; exact base_eq⟩)
      (case done =>
        intro h9 tk9 m9 st9 p9 nw9 hm9 hi9 hp9 hL9 Fa Na
        clear F9 N9
        obtain ⟨tp, ts, tt, u0, u1, u2, rfl⟩ := hm9.lit
        (try dsimp only)
        k_dflt (refine' tail_spec hL9 hi9 hp9 (plain_of hcd) hR30 _ _ rfl rfl tp ts tt _ _ u0 u1 u2 _ _ _ _ _ _ _ _ _ _ _ _ _ _ _ _ ?B Fa ?X Na ?T ?hd ?hu ?hE ?ret)
        (case B => k_asm)
        (case X => k_asm)
        (case T => k_asm)
        (case hd => ktr_room)
        (case hu => ktr_units)
        (case hE => passes_own)
        (case ret =>
          intro h2 tk2 m2 nw2 F2 N2
          clear Fa Na hm9 hi9 hL9
          (try k_fold)
          k_steps))
end
end Mine
theorem PySem.Challenge.cw_te0074_03_holds : PySem.Challenge.rw_te0074_03.Holds :=
  Mine.walk

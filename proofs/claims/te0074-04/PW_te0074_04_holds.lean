import PyProof.Rows.All
import Wide.All
import OpenK.AllK
import Wide.FinOn
import PySem.Challenge.RW_te0074_04
open PySem PySem.W PyProof.Rows
set_option Elab.async false
namespace Mine
open PySem.Builtin PySem.Builtin.Str PySem.StrLaws

/-- a text by its code points -/
abbrev S (l : List Nat) : Str := ⟨l.toArray⟩
theorem S_list (l : List Nat) : (S l).cps.toList = l := rfl
theorem S_len (l : List Nat) : (S l).length = l.length := by simp [PySem.Str.length]
theorem S_app (a b : List Nat) : S a ++ S b = S (a ++ b) := PySem.Str.ext' (by simp [PySem.Str.cps_append])
theorem S_of (x : Str) : x = S x.cps.toList := PySem.Str.ext' (by simp)
theorem S_inj {a b : List Nat} : S a = S b ↔ a = b := by
  constructor
  · intro h
    have := congrArg (fun x : Str => x.cps.toList) h
    simpa using this
  · rintro rfl; rfl

/-! ### where a text stands in another -/
def hit (x y : Str) (hi i : Nat) : Bool := decide (i + y.length ≤ hi) && subAt x y i
def NoLap (x y : Str) (hi : Nat) : Prop := ∀ i j, hit x y hi i = true → hit x y hi j = true → i < j → i + y.length ≤ j

theorem occ_run (x y : Str) (hi limit : Nat) (hn : NoLap x y hi) : ∀ (n a : Nat) (st : Array Nat) (free : Nat),
    (∀ i, a ≤ i → hit x y hi i = true → free ≤ i) → st.size + n ≤ limit →
    (forIn (List.range' a n) (st, free) (occBody x y hi limit)).run.fst.toList = st.toList ++ (List.range' a n).filter (hit x y hi)
  | 0, a, st, free, _, _ => by simp
  | n + 1, a, st, free, hf, hl => by
    rw [List.range'_succ, List.forIn_cons]
    unfold occBody
    by_cases hh : hit x y hi a = true
    · have h1 : (a + y.length ≤ hi) ∧ subAt x y a = true := by simpa [hit] using hh
      have h2 := hf a (Nat.le_refl _) hh
      rw [if_pos ⟨⟨⟨by show st.size < limit; lia, h2⟩, h1.1⟩, h1.2⟩]
      have := occ_run x y hi limit hn n (a + 1) (st.push a) (a + y.length) (fun i hi' hq => hn a i hh hq (by lia)) (by simp only [Array.size_push]; lia)
      simp only [List.filter_cons, hh, if_true]
      show (forIn (List.range' (a + 1) n) (st.push a, a + y.length) (occBody x y hi limit)).run.fst.toList = _
      rw [this]
      simp
    · have h1 : ¬ (((((st, free) : Array Nat × Nat).fst.size < limit ∧ ((st, free) : Array Nat × Nat).snd ≤ a) ∧ a + y.length ≤ hi) ∧ subAt x y a = true) := by
        intro h
        exact hh (by simp [hit, h.1.2, h.2])
      rw [if_neg h1]
      have := occ_run x y hi limit hn n (a + 1) st free (fun i hi' hq => hf i (by lia) hq) (by lia)
      simp only [List.filter_cons, hh]
      show (forIn (List.range' (a + 1) n) (st, free) (occBody x y hi limit)).run.fst.toList = _
      rw [this]
      simp

theorem occ_filter (x y : Str) (hi limit : Nat) (hn : NoLap x y hi) (hl : hi + 1 ≤ limit) : occurrences x y 0 hi limit = (List.range' 0 (hi + 1)).filter (hit x y hi) := by
  rw [occ_eq]
  have := occ_run x y hi limit hn (hi + 1) 0 #[] 0 (fun i _ _ => Nat.zero_le _) (by simp; lia)
  simpa using this

theorem last_run (x y : Str) (hi : Nat) : ∀ (n a : Nat) (st : Option Nat),
    (forIn (List.range' a n) st (lastBody x y hi)).run = (((List.range' a n).filter (hit x y hi)).getLast?).or st
  | 0, a, st => by simp
  | n + 1, a, st => by
    rw [List.range'_succ, List.forIn_cons]
    unfold lastBody
    by_cases hh : hit x y hi a = true
    · have h1 : (a + y.length ≤ hi) ∧ subAt x y a = true := by simpa [hit] using hh
      rw [if_pos (by simpa using h1)]
      have := last_run x y hi n (a + 1) (some a)
      simp only [List.filter_cons, hh, if_true]
      show (forIn (List.range' (a + 1) n) (some a) (lastBody x y hi)).run = _
      rw [this, List.getLast?_cons]
      cases ((List.range' (a + 1) n).filter (hit x y hi)).getLast? <;> simp
    · have h1 : ¬ ((a + y.length ≤ hi) ∧ subAt x y a = true) := fun h => hh (by simp [hit, h.1, h.2])
      rw [if_neg (by simpa using h1)]
      have := last_run x y hi n (a + 1) st
      simp only [List.filter_cons, hh]
      show (forIn (List.range' (a + 1) n) st (lastBody x y hi)).run = _
      rw [this]
      simp

theorem last_filter (x y : Str) (hi : Nat) : lastOccurrence x y 0 hi = ((List.range' 0 (hi + 1)).filter (hit x y hi)).getLast? := by
  rw [last_eq]
  have := last_run x y hi (hi + 1) 0 none
  simpa using this

theorem hit_one (l : List Nat) (c hi i : Nat) (hl : hi ≤ l.length) : hit (S l) ⟨#[c]⟩ hi i = (decide (i < hi) && (l[i]? == some c)) := by
  unfold hit
  have e1 : (⟨#[c]⟩ : Str).length = 1 := rfl
  rw [e1, subAt_eq, e1]
  by_cases h : i < hi
  · have h2 : i < l.length := by lia
    have e : ((S l).cps.toList.drop i).take 1 = [l[i]] := by
      rw [S_list, List.drop_eq_getElem_cons h2]; rfl
    rw [e, List.getElem?_eq_getElem h2]
    simp [h, Nat.succ_le_iff]
  · simp [h, Nat.succ_le_iff]

theorem nolap_one (x : Str) (c hi : Nat) : NoLap x ⟨#[c]⟩ hi := fun i j _ _ h => h

theorem hits_one (l : List Nat) (c hi : Nat) (hl : hi ≤ l.length) : (List.range' 0 (hi + 1)).filter (hit (S l) ⟨#[c]⟩ hi) = (List.range hi).filter (fun i => l[i]? == some c) := by
  have e : List.range' 0 (hi + 1) = List.range hi ++ [hi] := by rw [← List.range_eq_range', List.range_succ]
  rw [e, List.filter_append]
  have e2 : [hi].filter (hit (S l) ⟨#[c]⟩ hi) = [] := by
    simp [hit_one l c hi hi hl]
  rw [e2, List.append_nil]
  refine List.filter_congr fun i hi' => ?_
  rw [hit_one l c hi i hl]
  simp [List.mem_range.mp hi']

theorem count_one (l : List Nat) (c hi limit : Nat) (hl : hi ≤ l.length) (hlim : hi + 1 ≤ limit) : (occurrences (S l) ⟨#[c]⟩ 0 hi limit).length = (l.take hi).count c := by
  rw [occ_filter _ _ _ _ (nolap_one _ _ _) hlim, hits_one l c hi hl]
  clear hlim limit
  induction hi with
  | zero => simp
  | succ k ih =>
    have hk : k < l.length := by lia
    rw [List.range_succ, List.filter_append, List.length_append, ih (by lia), List.take_add_one, List.count_append, List.getElem?_eq_getElem hk]
    by_cases e : l[k] = c <;> simp [hk, e]

/-! ### lines and columns -/
def adv (p : Nat × Nat) (c : Nat) : Nat × Nat := if c = 10 then (p.1 + 1, 0) else (p.1, p.2 + 1)

theorem lines_of (l : List Nat) (hi : Nat) (p : Nat × Nat) (hl : hi ≤ l.length) :
    p.1 + (l.take hi).count 10 = ((l.take hi).foldl adv p).1 := by
  induction hi with
  | zero => simp
  | succ k ih =>
    have hk : k < l.length := by lia
    rw [List.take_add_one, List.count_append, List.foldl_append, List.getElem?_eq_getElem hk]
    have := ih (by lia)
    by_cases e : l[k] = 10 <;> simp [adv, e] <;> lia

theorem cols_of (l : List Nat) (hi : Nat) (p : Nat × Nat) (hl : hi ≤ l.length) :
    (match lastOccurrence (S l) ⟨#[10]⟩ 0 hi with | some i => hi - (i + 1) | none => p.2 + hi) = ((l.take hi).foldl adv p).2 := by
  rw [last_filter, hits_one l 10 hi hl]
  induction hi with
  | zero => simp
  | succ k ih =>
    have hk : k < l.length := by lia
    rw [List.range_succ, List.filter_append, List.take_add_one, List.foldl_append, List.getElem?_eq_getElem hk]
    have := ih (by lia)
    by_cases e : l[k] = 10
    · simp [adv, e, hk]
    · have e2 : [k].filter (fun i => l[i]? == some 10) = [] := by simp [hk, e]
      rw [e2, List.append_nil]
      simp only [Option.toList_some, List.foldl_cons, List.foldl_nil, adv, if_neg e]
      rw [← this]
      cases hq : ((List.range k).filter (fun i => l[i]? == some 10)).getLast? with
      | none => simp; lia
      | some i =>
        have hi := List.mem_of_getLast? hq
        have : i < k := by simpa using (List.mem_filter.mp hi).1
        simp; lia

theorem last_lt (l : List Nat) (c hi i : Nat) (hl : hi ≤ l.length) (h : lastOccurrence (S l) ⟨#[c]⟩ 0 hi = some i) : i < hi := by
  rw [last_filter, hits_one l c hi hl] at h
  have hi := List.mem_of_getLast? h
  simpa using (List.mem_filter.mp hi).1

/-! ### replace -/
def G (x y z : Str) (a : Nat) : List Nat := (PySem.Str.join z (partsFrom x y.length a ((List.range' a (x.length + 1 - a)).filter (hit x y x.length)))).cps.toList

theorem join_cons (z p : Str) : ∀ r : List Str, r ≠ [] → (PySem.Str.join z (p :: r)).cps.toList = p.cps.toList ++ z.cps.toList ++ (PySem.Str.join z r).cps.toList
  | [], h => absurd rfl h
  | q :: r, _ => by
    show ((p ++ z ++ PySem.Str.join z (q :: r)).cps).toList = _
    simp [PySem.Str.cps_append]

theorem parts_ne (x : Str) (w a : Nat) (cuts : List Nat) : partsFrom x w a cuts ≠ [] := by
  cases cuts <;> simp [partsFrom]

theorem G_hit {x y z : Str} {a : Nat} (hn : NoLap x y x.length) (h : hit x y x.length a = true) (hw : 1 ≤ y.length) : G x y z a = z.cps.toList ++ G x y z (a + y.length) := by
  have h1 : a + y.length ≤ x.length := by have := h; simp [hit] at this; exact this.1
  unfold G
  have e : (List.range' a (x.length + 1 - a)).filter (hit x y x.length) = a :: (List.range' (a + y.length) (x.length + 1 - (a + y.length))).filter (hit x y x.length) := by
    have e1 : x.length + 1 - a = y.length + (x.length + 1 - (a + y.length)) := by rw [← Nat.sub_sub, Nat.add_sub_cancel' (Nat.le_sub_of_add_le' (Nat.le_succ_of_le h1))]
    rw [e1, ← List.range'_append_1, List.filter_append]
    have e2 : (List.range' a y.length).filter (hit x y x.length) = [a] := by
      obtain ⟨k, hk⟩ : ∃ k, y.length = k + 1 := ⟨y.length - 1, by lia⟩
      rw [hk, List.range'_succ, List.filter_cons, if_pos h]
      have : (List.range' (a + 1) k).filter (hit x y x.length) = [] := by
        refine List.filter_eq_nil_iff.mpr fun i hi hq => ?_
        have hm := List.mem_range'_1.mp hi
        have := hn a i h hq (by lia)
        lia
      rw [this]
    rw [e2]; rfl
  rw [e]
  show (PySem.Str.join z (strSub x a a :: partsFrom x y.length (a + y.length) _)).cps.toList = _
  rw [join_cons _ _ _ (parts_ne _ _ _ _), strSub_toList]
  simp

theorem parts_step (x : Str) (w a : Nat) (cuts : List Nat) (z : Str) (ha : a < x.length) (hc : ∀ c ∈ cuts, a + 1 ≤ c) :
    (PySem.Str.join z (partsFrom x w a cuts)).cps.toList = x.cps.toList[a]'(by simpa [PySem.Str.length] using ha) :: (PySem.Str.join z (partsFrom x w (a + 1) cuts)).cps.toList := by
  have hx : a < x.cps.toList.length := by simpa [PySem.Str.length] using ha
  have sub1 : ∀ c, a + 1 ≤ c → (strSub x a c).cps.toList = x.cps.toList[a] :: (strSub x (a + 1) c).cps.toList := by
    intro c hc
    rw [strSub_toList, strSub_toList, List.drop_eq_getElem_cons hx]
    rw [show c - a = c - (a + 1) + 1 by rw [← Nat.sub_sub, Nat.sub_add_cancel (Nat.le_sub_of_add_le' hc)], List.take_succ_cons]
  cases cuts with
  | nil =>
    show (strSub x a x.length).cps.toList = _ :: (strSub x (a + 1) x.length).cps.toList
    exact sub1 _ (by lia)
  | cons c r =>
    show (PySem.Str.join z (strSub x a c :: partsFrom x w (c + w) r)).cps.toList = _ :: (PySem.Str.join z (strSub x (a + 1) c :: partsFrom x w (c + w) r)).cps.toList
    rw [join_cons _ _ _ (parts_ne _ _ _ _), join_cons _ _ _ (parts_ne _ _ _ _), sub1 c (hc c (.head _))]
    rfl

theorem G_miss {x y z : Str} {a : Nat} (h : ¬ hit x y x.length a = true) (ha : a < x.length) : G x y z a = x.cps.toList[a]'(by simpa [PySem.Str.length] using ha) :: G x y z (a + 1) := by
  unfold G
  have e : (List.range' a (x.length + 1 - a)).filter (hit x y x.length) = (List.range' (a + 1) (x.length + 1 - (a + 1))).filter (hit x y x.length) := by
    have e1 : x.length + 1 - a = (x.length + 1 - (a + 1)) + 1 := by rw [← Nat.sub_sub, Nat.sub_add_cancel (Nat.le_sub_of_add_le' (Nat.succ_le_succ (Nat.le_of_lt ha)))]
    rw [e1, List.range'_succ, List.filter_cons, if_neg h]
  rw [e]
  refine parts_step x _ a _ z ha fun c hc => ?_
  have := (List.mem_filter.mp hc).1
  exact (List.mem_range'_1.mp this).1

theorem G_end {x y z : Str} (hw : 1 ≤ y.length) : G x y z x.length = [] := by
  unfold G
  have e : (List.range' x.length (x.length + 1 - x.length)).filter (hit x y x.length) = [] := by
    refine List.filter_eq_nil_iff.mpr fun i hi hq => ?_
    have hm := List.mem_range'_1.mp hi
    simp [hit] at hq
    lia
  rw [e]
  show (strSub x x.length x.length).cps.toList = []
  rw [strSub_toList]; simp

theorem replace_G {x y z : Str} (hn : NoLap x y x.length) (hw : 1 ≤ y.length) : (Txt.replace x y z).cps.toList = G x y z 0 := by
  unfold Txt.replace G
  rw [occ_filter x y x.length _ hn (Nat.le_refl _)]
  have hy : (y.length == 0) = false := by simp; lia
  rw [hy, Bool.false_and, Bool.or_false, Nat.sub_zero]
  cases hc : (List.range' 0 (x.length + 1)).filter (hit x y x.length) with
  | nil =>
    show x.cps.toList = (strSub x 0 x.length).cps.toList
    rw [strSub_toList, List.drop_zero, Nat.sub_zero, List.take_of_length_le (by simp [PySem.Str.length])]
  | cons c r =>
    show (glued z (partsBetween x (c :: r) y.length)).cps.toList = _
    rw [glued_eq_join, partsBetween_eq]

/-- CR LF to LF -/
def crlf : List Nat → List Nat
  | [] => []
  | [c] => [c]
  | c :: d :: t => if c = 13 ∧ d = 10 then 10 :: crlf t else c :: crlf (d :: t)
/-- CR to LF -/
def crs (l : List Nat) : List Nat := l.map fun c => if c = 13 then 10 else c
/-- line ends mended -/
def norm (l : List Nat) : List Nat := crs (crlf l)

theorem hit_crlf (l : List Nat) (i : Nat) : hit (S l) ⟨#[13, 10]⟩ (S l).length i = true ↔ l[i]? = some 13 ∧ l[i + 1]? = some 10 := by
  unfold hit
  have e1 : (⟨#[13, 10]⟩ : Str).length = 2 := rfl
  have e0 : (⟨#[13, 10]⟩ : Str).cps.toList = [13, 10] := rfl
  rw [e1, subAt_eq, e1, S_list, S_len, e0]
  by_cases h : i + 2 ≤ l.length
  · have h1 : i < l.length := by lia
    have h2 : i + 1 < l.length := by lia
    rw [List.drop_eq_getElem_cons h1, List.drop_eq_getElem_cons h2, List.getElem?_eq_getElem h1, List.getElem?_eq_getElem h2]
    simp only [h, decide_true, Bool.true_and, List.take_succ_cons, List.take_zero, beq_iff_eq, List.cons.injEq, and_true, Option.some.injEq]
  · simp only [h, decide_false, Bool.false_and, Bool.false_eq_true, false_iff, not_and]
    intro _
    rw [List.getElem?_eq_none (by lia)]
    simp

theorem nolap_crlf (l : List Nat) : NoLap (S l) ⟨#[13, 10]⟩ (S l).length := by
  intro i j hi hj hij
  have e1 : (⟨#[13, 10]⟩ : Str).length = 2 := rfl
  rw [e1]
  have h1 := (hit_crlf l i).mp hi
  have h2 := (hit_crlf l j).mp hj
  rcases Nat.lt_or_ge j (i + 2) with h | h
  · have : j = i + 1 := by lia
    subst this
    rw [h1.2] at h2
    cases h2.1
  · exact h

theorem G_crlf (l : List Nat) : ∀ (k a : Nat), a + k = l.length → G (S l) ⟨#[13, 10]⟩ ⟨#[10]⟩ a = crlf (l.drop a) := by
  intro k
  induction k using Nat.strongRecOn with
  | ind k ih =>
    intro a hk
    have hlen : (S l).length = l.length := S_len l
    rcases Nat.eq_zero_or_pos k with h0 | h0
    · have : a = (S l).length := by lia
      rw [this, G_end (by show 1 ≤ 2; lia), hlen, List.drop_length]
      rfl
    · have ha : a < l.length := by lia
      by_cases hh : hit (S l) ⟨#[13, 10]⟩ (S l).length a = true
      · obtain ⟨h1, h2⟩ := (hit_crlf l a).mp hh
        have ha2 : a + 1 < l.length := by
          rcases Nat.lt_or_ge (a + 1) l.length with h | h
          · exact h
          · rw [List.getElem?_eq_none h] at h2; cases h2
        rw [G_hit (nolap_crlf l) hh (by show 1 ≤ 2; lia)]
        show [10] ++ G (S l) ⟨#[13, 10]⟩ ⟨#[10]⟩ (a + 2) = _
        rw [ih (k - 2) (by lia) (a + 2) (by lia)]
        rw [List.drop_eq_getElem_cons ha, List.drop_eq_getElem_cons ha2]
        rw [List.getElem?_eq_getElem ha] at h1
        rw [List.getElem?_eq_getElem ha2] at h2
        simp only [Option.some.injEq] at h1 h2
        simp [crlf, h1, h2]
      · rw [G_miss hh (by rw [hlen]; exact ha), ih (k - 1) (by lia) (a + 1) (by lia), List.drop_eq_getElem_cons ha]
        have hq : ¬ (l[a]? = some 13 ∧ l[a + 1]? = some 10) := fun q => hh ((hit_crlf l a).mpr q)
        rw [List.getElem?_eq_getElem ha] at hq
        rcases Nat.lt_or_ge (a + 1) l.length with h | h
        · rw [List.getElem?_eq_getElem h] at hq
          simp only [Option.some.injEq] at hq
          rw [List.drop_eq_getElem_cons h]
          show _ = crlf (l[a] :: l[a + 1] :: _)
          rw [crlf, if_neg hq]
        · rw [List.drop_eq_nil_of_le h]
          rfl

theorem replace_crlf (l : List Nat) : Txt.replace (S l) ⟨#[13, 10]⟩ ⟨#[10]⟩ = S (crlf l) := by
  have h := replace_G (z := ⟨#[10]⟩) (nolap_crlf l) (by show 1 ≤ 2; lia)
  rw [G_crlf l l.length 0 (by lia), List.drop_zero] at h
  rw [S_of (Txt.replace _ _ _), h]

theorem hit_one' (l : List Nat) (c i : Nat) : hit (S l) ⟨#[c]⟩ (S l).length i = true ↔ l[i]? = some c := by
  rw [S_len, hit_one l c l.length i (Nat.le_refl _)]
  constructor
  · intro h; simp at h; simpa using h.2
  · intro h
    have : i < l.length := by
      rcases Nat.lt_or_ge i l.length with q | q
      · exact q
      · rw [List.getElem?_eq_none q] at h; cases h
    simp [this]
    rw [List.getElem?_eq_getElem this] at h
    simpa using h

theorem G_cr (l : List Nat) : ∀ (k a : Nat), a + k = l.length → G (S l) ⟨#[13]⟩ ⟨#[10]⟩ a = crs (l.drop a) := by
  intro k
  induction k with
  | zero =>
    intro a hk
    have : a = (S l).length := by rw [S_len]; lia
    rw [this, G_end (by show 1 ≤ 1; lia), S_len, List.drop_length]
    rfl
  | succ k ih =>
    intro a hk
    have ha : a < l.length := by lia
    rw [List.drop_eq_getElem_cons ha]
    by_cases hh : hit (S l) ⟨#[13]⟩ (S l).length a = true
    · have h1 := (hit_one' l 13 a).mp hh
      rw [List.getElem?_eq_getElem ha] at h1
      simp only [Option.some.injEq] at h1
      rw [G_hit (nolap_one _ _ _) hh (by show 1 ≤ 1; lia)]
      show [10] ++ G (S l) ⟨#[13]⟩ ⟨#[10]⟩ (a + 1) = _
      rw [ih (a + 1) (by lia)]
      simp [crs, h1]
    · have hq : ¬ l[a]? = some 13 := fun q => hh ((hit_one' l 13 a).mpr q)
      rw [List.getElem?_eq_getElem ha] at hq
      simp only [Option.some.injEq] at hq
      rw [G_miss hh (by rw [S_len]; exact ha), ih (a + 1) (by lia)]
      show l[a] :: crs (l.drop (a + 1)) = (if l[a] = 13 then 10 else l[a]) :: crs (l.drop (a + 1))
      rw [if_neg hq]

theorem replace_cr (l : List Nat) : Txt.replace (S l) ⟨#[13]⟩ ⟨#[10]⟩ = S (crs l) := by
  have h := replace_G (z := ⟨#[10]⟩) (nolap_one (S l) 13 _) (by show 1 ≤ 1; lia)
  rw [G_cr l l.length 0 (by lia), List.drop_zero] at h
  rw [S_of (Txt.replace _ _ _), h]

theorem rlt {xx0 dd0 cc0 aa0 nn0 : Nat} (hh0 : dd0 + aa0 < nn0) (ee0 : xx0 = dd0 + cc0) (bb0 : Nat.ble cc0 aa0 = true) : xx0 < nn0 := by
  subst ee0
  exact Nat.lt_of_le_of_lt (Nat.add_le_add_left (Nat.le_of_ble_eq_true bb0) dd0) hh0
theorem roomz {dd0 aa0 nn0 : Nat} (hh0 : dd0 + aa0 < nn0) (bb0 : Nat.ble 0 aa0 = true) : dd0 < nn0 := rlt hh0 rfl bb0
theorem room0 {dd0 aa0 xx0 nn0 : Nat} (hh0 : dd0 + aa0 < nn0) (bb0 : Nat.ble xx0 aa0 = true) : dd0 + xx0 < nn0 := rlt hh0 rfl bb0
theorem room1 {dd0 aa0 xx0 nn0 : Nat} (hh0 : dd0 + aa0 < nn0) (bb0 : Nat.ble (1 + xx0) aa0 = true) : dd0 + 1 + xx0 < nn0 := rlt hh0 (Nat.add_assoc dd0 1 xx0) bb0
theorem room3 {dd0 aa0 xx0 nn0 : Nat} (hh0 : dd0 + aa0 < nn0) (bb0 : Nat.ble (3 + xx0) aa0 = true) : dd0 + 1 + 1 + 1 + xx0 < nn0 := rlt hh0 (Nat.add_assoc dd0 3 xx0) bb0
theorem lit1 {m' : PySem.Str → Option Value} {z x : PySem.Str} {v r : Option Value} (hv : m' x = v) (h : z ≠ x → m' z = r) : m' z = if z = x then v else r := by
  by_cases e : z = x
  · rw [if_pos e, e, hv]
  · rw [if_neg e]
    exact h e
theorem le3 {nn0 mm0 kk0 : Nat} (hh0 : nn0 ≤ mm0) (bb0 : Nat.ble mm0 kk0 = true) : nn0 ≤ kk0 := Nat.le_trans hh0 (Nat.le_of_ble_eq_true bb0)
/-- a fact kept from lia -/
def Hid (p : Prop) : Prop := p
end Mine
namespace Mine
open PySem.Builtin PySem.Builtin.Str PySem.StrLaws PySem.Calls

/-! ### slices -/
def clipI (n : Nat) (i : Int) : Nat := (max 0 (min (if i < 0 then i + n else i) (n : Int))).toNat
def loI (n : Nat) : Option Int → Nat | none => 0 | some i => clipI n i
def hiI (n : Nat) : Option Int → Nat | none => n | some i => clipI n i
theorem clipI_le (n : Nat) (i : Int) : clipI n i ≤ n := Int.toNat_le.mpr (Int.max_le.mpr ⟨Int.natCast_nonneg n, Int.min_le_right _ _⟩)
theorem clip_nat (k n : Nat) : max 0 (min (k : Int) (n : Int)) = ((min k n : Nat) : Int) := by
  rw [Int.max_eq_right (Int.le_min.mpr ⟨Int.natCast_nonneg k, Int.natCast_nonneg n⟩)]
  rcases Nat.le_total k n with h | h
  · rw [Nat.min_eq_left h, Int.min_eq_left (Int.ofNat_le.mpr h)]
  · rw [Nat.min_eq_right h, Int.min_eq_right (Int.ofNat_le.mpr h)]
theorem not_neg (k : Nat) : ¬ ((k : Int) < 0) := Int.not_lt.mpr (Int.natCast_nonneg k)
theorem clipI_nat (n k : Nat) : clipI n (k : Int) = min k n := by
  unfold clipI
  rw [if_neg (not_neg k), clip_nat, Int.toNat_natCast]
theorem loI_le (n : Nat) (o : Option Int) : loI n o ≤ n := by cases o <;> simp [loI, clipI_le]
theorem hiI_le (n : Nat) (o : Option Int) : hiI n o ≤ n := by cases o <;> simp [hiI, clipI_le]

theorem idx_clip (lo hi : Option Int) (n : Nat) : strSliceIndices lo hi 1 n = strSliceIndices (some (loI n lo : Int)) (some (hiI n hi : Int)) 1 n := by
  unfold strSliceIndices
  have g : ∀ k : Nat, k ≤ n → (max 0 (min (if (k : Int) < 0 then (k : Int) + n else k) (n : Int))) = k := by intro k hk; rw [if_neg (not_neg k), clip_nat, Nat.min_eq_left hk]
  have e1 : (max 0 (min (if ((loI n lo : Nat) : Int) < 0 then ((loI n lo : Nat) : Int) + n else ((loI n lo : Nat) : Int)) (n : Int))) = (loI n lo : Nat) := g _ (loI_le n lo)
  have e2 : (max 0 (min (if ((hiI n hi : Nat) : Int) < 0 then ((hiI n hi : Nat) : Int) + n else ((hiI n hi : Nat) : Int)) (n : Int))) = (hiI n hi : Nat) := g _ (hiI_le n hi)
  have p : ((1 : Int) > 0) = True := by simp
  simp only [p, if_true, e1, e2]
  congr 1
  · cases lo with
    | none => simp [loI]
    | some i => exact (Int.toNat_of_nonneg (Int.le_max_left _ _)).symm
  · cases hi with
    | none => simp [hiI]
    | some i => exact (Int.toNat_of_nonneg (Int.le_max_left _ _)).symm

theorem slice_S (l : List Nat) (lo hi : Option Int) : Txt.slice (S l) lo hi = S ((l.take (hiI l.length hi)).drop (loI l.length lo)) := by
  unfold Txt.slice
  rw [S_len, idx_clip]
  have h1 := loI_le l.length lo
  have h2 := hiI_le l.length hi
  generalize loI l.length lo = a at *
  generalize hiI l.length hi = b at *
  by_cases hab : a ≤ b
  · rw [show strSliceIndices (some (a : Int)) (some (b : Int)) 1 l.length = (List.range (b - a)).map (fun k => a + k) from strSliceIndices_plain hab h2]
    have hp := picks l (b - a) a (by lia)
    have hp' : (List.map (fun k => a + k) (List.range (b - a))).filterMap ((S l).cps[·]?) = (l.take b).drop a := by
      rw [List.drop_take]
      simpa using hp
    rw [hp']
    split
    · rename_i h
      have : b - a = l.length := by simpa using h
      have ha : a = 0 := by lia
      have hb : b = l.length := by lia
      subst ha; subst hb
      simp
    · rfl
  · have e : strSliceIndices (some (a : Int)) (some (b : Int)) 1 l.length = [] := by
      have g1 := not_neg a
      have g2 := not_neg b
      have g3 : ¬ (max 0 (min (a : Int) (l.length : Int)) < max 0 (min (b : Int) (l.length : Int))) := by rw [clip_nat, clip_nat, Nat.min_eq_left h1, Nat.min_eq_left h2]; exact fun h => hab (Nat.le_of_lt (Int.ofNat_lt.mp h))
      simp only [strSliceIndices, sliceRange, g1, g2, if_false, g3, show ((1 : Int) > 0) = True from by simp, if_true]
      rfl
    rw [e]
    have : (l.take b).drop a = [] := List.drop_eq_nil_of_le (by simp; lia)
    rw [this]
    split
    · rename_i h
      have : 0 = l.length := by simpa using h
      rw [List.eq_nil_of_length_eq_zero this.symm]
    · rfl

theorem slice_take (l : List Nat) (n : Nat) : Txt.slice (S l) none (some (n : Int)) = S (l.take n) := by
  rw [slice_S]
  have : hiI l.length (some (n : Int)) = min n l.length := clipI_nat _ _
  rw [this]
  show S ((l.take _).drop 0) = _
  rw [List.drop_zero]
  rcases Nat.le_total n l.length with h | h
  · rw [Nat.min_eq_left h]
  · rw [Nat.min_eq_right h, List.take_of_length_le h, List.take_of_length_le (Nat.le_refl _)]
theorem slice_drop (l : List Nat) (n : Nat) : Txt.slice (S l) (some (n : Int)) none = S (l.drop n) := by
  rw [slice_S]
  have : loI l.length (some (n : Int)) = min n l.length := clipI_nat _ _
  rw [this]
  show S ((l.take l.length).drop _) = _
  rw [List.take_length]
  rcases Nat.le_total n l.length with h | h
  · rw [Nat.min_eq_left h]
  · rw [Nat.min_eq_right h, List.drop_length, List.drop_eq_nil_of_le h]
theorem slice_part (l : List Nat) (a n : Nat) : Txt.slice (S l) (some (a : Int)) (some ((a : Int) + (n : Int))) = S ((l.drop a).take n) := by
  rw [slice_S]
  have e1 : loI l.length (some (a : Int)) = min a l.length := clipI_nat _ _
  have e2 : hiI l.length (some ((a : Int) + n)) = min (a + n) l.length := clipI_nat _ (a + n)
  rw [e1, e2]
  congr 2
  rcases Nat.le_total a l.length with h | h
  · rw [Nat.min_eq_left h]
    rcases Nat.le_total (a + n) l.length with h2 | h2
    · rw [Nat.min_eq_left h2, List.drop_take, Nat.add_sub_cancel_left]
    · rw [Nat.min_eq_right h2, List.take_length, List.take_of_length_le (by rw [List.length_drop]; exact Nat.sub_le_iff_le_add'.mpr h2)]
  · rw [Nat.min_eq_right h, List.drop_eq_nil_of_le (List.length_take_le' _ _), List.drop_eq_nil_of_le h, List.take_nil]
theorem slice_mid (l : List Nat) (a b : Nat) : Txt.slice (S l) (some (a : Int)) (some (b : Int)) = S ((l.take b).drop a) := by
  rw [slice_S]
  have e1 : loI l.length (some (a : Int)) = min a l.length := clipI_nat _ _
  have e2 : hiI l.length (some (b : Int)) = min b l.length := clipI_nat _ _
  rw [e1, e2]
  have q : l.take (min b l.length) = l.take b := by
    rcases Nat.le_total b l.length with h | h
    · rw [Nat.min_eq_left h]
    · rw [Nat.min_eq_right h, List.take_length, List.take_of_length_le h]
  rw [q]
  rcases Nat.le_total a l.length with h | h
  · rw [Nat.min_eq_left h]
  · rw [Nat.min_eq_right h, List.drop_eq_nil_of_le (List.length_take_le' _ _), List.drop_eq_nil_of_le (Nat.le_trans (List.length_take_le' _ _) h)]
theorem slice_init (l : List Nat) : Txt.slice (S l) none (some (-1)) = S l.dropLast := by
  rw [slice_S]
  have e2 : ∀ n : Nat, hiI n (some (-1)) = n - 1 := fun n => by
    cases n with
    | zero => rfl
    | succ m =>
      show clipI _ _ = _
      unfold clipI
      rw [if_pos (by decide), show (-1 : Int) + ((m + 1 : Nat) : Int) = (m : Int) by lia, clip_nat, Nat.min_eq_left (Nat.le_succ m)]
      rfl
  rw [e2]
  show S ((l.take _).drop 0) = _
  rw [List.drop_zero, List.dropLast_eq_take]

/-! ### str.count, str.rfind with both bounds -/
section
variable {prog : Program} {w : World} {A : Around} {E : Value → Shared → Prop} {s : Shared} {x y : Str} {t u v v' : Tok} {Q : Value → Shared → Prop}
theorem gives_count4 (x y : Str) (hi : Nat) (t u v v' : Tok) (h : hi ≤ x.length) : Gives («str.count» ⟨[.str x t, .str y u, .int 0 v, .int (hi : Int) v'], []⟩) (.int (occurrences x y 0 hi (x.length + 1)).length) := by
  have e : min (max 0 (if (hi : Int) < 0 then (hi : Int) + x.length else (hi : Int))).toNat x.length = hi := by rw [if_neg (not_neg hi), Int.max_eq_right (Int.natCast_nonneg hi), Int.toNat_natCast, Nat.min_eq_left h]
  show Gives (retInt (occurrences x y 0 (min (max 0 (if (hi : Int) < 0 then (hi : Int) + x.length else (hi : Int))).toNat x.length) (x.length + 1)).length) _
  rw [e]
  exact .of_eq rfl
theorem gives_rfind4 (x y : Str) (hi : Nat) (t u v v' : Tok) (h : hi ≤ x.length) : Gives («str.rfind» ⟨[.str x t, .str y u, .int 0 v, .int (hi : Int) v'], []⟩) (.int (match lastOccurrence x y 0 hi with | some i => (i : Int) | none => -1)) := by
  have e : min (max 0 (if (hi : Int) < 0 then (hi : Int) + x.length else (hi : Int))).toNat x.length = hi := by rw [if_neg (not_neg hi), Int.max_eq_right (Int.natCast_nonneg hi), Int.toNat_natCast, Nat.min_eq_left h]
  show Gives (match lastOccurrence x y 0 (min (max 0 (if (hi : Int) < 0 then (hi : Int) + x.length else (hi : Int))).toNat x.length) with | some i => retInt i | none => (do rule "str.rfind.not-found"; retInt (-1))) _
  rw [e]
  cases lastOccurrence x y 0 hi with
  | none => exact .rule (.of_eq rfl)
  | some i => exact .of_eq rfl
theorem count4 {l : List Nat} {hi : Nat} (hy : y = ⟨#[10]⟩) (h : hi ≤ l.length) (hq : Q (.int ((l.take hi).count 10 : Nat) s.toks) { s with toks := s.toks + 1 }) :
    wpAny (model prog w) A (call (.builtin "str.count") [.str (S l) t, .str y u, .int 0 v, .int (hi : Int) v']) Q E s := by
  subst hy
  refine call_gives F.slot_str_count (typeIs_str _ _ _) F.entry_str_count (F.args_str_count_4 _ _ _ _) (gives_count4 (S l) _ hi t u v v' (by rw [S_len]; exact h)) ?_
  rw [count_one l 10 hi _ h (by rw [S_len]; lia)]
  exact hq
/-- the last line end before hi, or -1 -/
def rf (l : List Nat) (hi : Nat) : Int := match lastOccurrence (S l) ⟨#[10]⟩ 0 hi with | some i => (i : Int) | none => -1
theorem rfind4 {l : List Nat} {hi : Nat} (hy : y = ⟨#[10]⟩) (h : hi ≤ l.length) (hq : Q (.int (rf l hi) s.toks) { s with toks := s.toks + 1 }) :
    wpAny (model prog w) A (call (.builtin "str.rfind") [.str (S l) t, .str y u, .int 0 v, .int (hi : Int) v']) Q E s := by
  subst hy
  exact call_gives F.slot_str_rfind (typeIs_str _ _ _) F.entry_str_rfind (F.args_str_rfind_4 _ _ _ _) (gives_rfind4 (S l) _ hi t u v v' (by rw [S_len]; exact h)) hq
theorem rf_none {l : List Nat} {hi : Nat} (p : Nat × Nat) (h : hi ≤ l.length) (e : rf l hi = -1) : ((l.take hi).foldl adv p).2 = p.2 + hi := by
  rw [← cols_of l hi p h]
  cases hq : lastOccurrence (S l) ⟨#[10]⟩ 0 hi with
  | none => rfl
  | some i =>
    have ef : rf l hi = (i : Int) := by unfold rf; rw [hq]
    lia
theorem rf_some {l : List Nat} {hi : Nat} (p : Nat × Nat) (h : hi ≤ l.length) (e : rf l hi ≠ -1) : (((l.take hi).foldl adv p).2 : Int) = hi - (rf l hi + 1) := by
  rw [← cols_of l hi p h]
  cases hq : lastOccurrence (S l) ⟨#[10]⟩ 0 hi with
  | none => exact absurd (show rf l hi = -1 by unfold rf; rw [hq]) e
  | some i =>
    have ef : rf l hi = (i : Int) := by unfold rf; rw [hq]
    have := last_lt l 10 hi i h hq
    rw [ef]
    exact Int.ofNat_sub this
end

/-! ### the stream, plainly -/
structure St where
  chunk : List Nat
  off : Nat
  errs : Nat
  pl : Nat
  pc : Nat
  buf : Option Nat
  place : Nat

def St.pos (st : St) (o : Nat) : Nat × Nat := (st.chunk.take o).foldl adv (st.pl, st.pc)
def isInv (c : Nat) : Bool := (1 ≤ c && c ≤ 8) || c == 11 || (14 ≤ c && c ≤ 31) || (127 ≤ c && c ≤ 159) || (64976 ≤ c && c ≤ 65007) || (c % 65536 == 65534 || c % 65536 == 65535) || (55296 ≤ c && c ≤ 57343)
/-- a sign that waits for the next piece -/
def waits (c : Nat) : Bool := c == 13 || (55296 ≤ c && c ≤ 56319)
def split (data : List Nat) : List Nat × Option Nat := if 1 < data.length ∧ waits (data.getLastD 0) = true then (data.dropLast, some (data.getLastD 0)) else (data, none)
theorem split_len (l : List Nat) : (split l).1.length ≤ l.length := by
  unfold split
  split
  · simp
  · exact Nat.le_refl _
theorem split_yes {l : List Nat} (h : 1 < l.length) (h2 : l.getLastD 0 = 13 ∨ (55296 ≤ l.getLastD 0 ∧ l.getLastD 0 ≤ 56319)) : split l = (l.dropLast, some (l.getLastD 0)) := by
  unfold split
  have hw : waits (l.getLastD 0) = true := by
    simp only [waits, Bool.or_eq_true, beq_iff_eq, Bool.and_eq_true, decide_eq_true_eq]
    exact h2
  rw [if_pos ⟨h, hw⟩]
theorem split_no {l : List Nat} (h : ¬ (1 < l.length ∧ (l.getLastD 0 = 13 ∨ (55296 ≤ l.getLastD 0 ∧ l.getLastD 0 ≤ 56319)))) : split l = (l, none) := by
  unfold split
  rw [if_neg (fun q => h ⟨q.1, by
    have hq := q.2
    simp only [waits, Bool.or_eq_true, beq_iff_eq, Bool.and_eq_true, decide_eq_true_eq] at hq
    exact hq⟩)]
/-- a piece of the text -/
def partOf (R : List Nat) (size place : Nat) : List Nat := (R.drop place).take size
theorem partOf_len (R : List Nat) (size place : Nat) : (partOf R size place).length = min size (R.length - place) := by simp [partOf]
theorem partOf_le (R : List Nat) (size place : Nat) : (partOf R size place).length ≤ R.length := by unfold partOf; exact Nat.le_trans (List.length_take_le' _ _) (by rw [List.length_drop]; exact Nat.sub_le _ _)
def St.data (R : List Nat) (size : Nat) (st : St) : List Nat := st.buf.toList ++ partOf R size st.place
def St.fetch (R : List Nat) (size : Nat) (st : St) : St :=
  let p := st.pos st.chunk.length
  let d := split (st.data R size)
  { chunk := norm d.1, off := 0, errs := st.errs + d.1.countP isInv, pl := p.1, pc := p.2, buf := d.2, place := st.place + (partOf R size st.place).length }

theorem crlf_ne : ∀ {l : List Nat}, l ≠ [] → crlf l ≠ []
  | [], h => absurd rfl h
  | [_], _ => by simp [crlf]
  | c :: d :: r, _ => by
    rw [crlf]
    split <;> exact List.cons_ne_nil _ _
theorem norm_ne {l : List Nat} (h : l ≠ []) : norm l ≠ [] := by
  unfold norm crs
  intro e
  exact crlf_ne h (List.map_eq_nil_iff.mp e)
theorem split_ne {l : List Nat} (h : l ≠ []) : (split l).1 ≠ [] := by
  unfold split
  split
  · rename_i hh
    intro e
    have := congrArg List.length e
    simp at this
    lia
  · exact h
theorem fetch_ne {R : List Nat} {size : Nat} {st : St} (h : st.data R size ≠ []) : (st.fetch R size).chunk ≠ [] := norm_ne (split_ne h)
/-- char -/
def St.charR (R : List Nat) (st : St) : Option Nat × St :=
  if st.off < st.chunk.length then (some (st.chunk.getD st.off 0), { st with off := st.off + 1 })
  else if st.data R 10240 = [] then (none, st.fetch R 10240)
  else (some ((st.fetch R 10240).chunk.getD 0 0), { st.fetch R 10240 with off := 1 })
/-- unget of a sign -/
def St.unget (c : Nat) (st : St) : St := if st.off = 0 then { st with chunk := c :: st.chunk } else { st with off := st.off - 1 }
end Mine
namespace Mine
open PySem.Builtin PySem.Builtin.Str PySem.StrLaws PySem.Calls

/-! ### steps over texts, by their code points -/
section
variable {prog : Program} {w : World} {A : Around} {E : Value → Shared → Prop} {s : Shared} {value slice : PySem.Expr} {l b : List Nat} {t u v : Tok} {h₀ : Heap} {L : Addr} {m : Str → Option Value} {news : List (Addr × Obj)} {Q : Value → Shared → Prop}
theorem len_S (hl : l.length ≤ 10000000) (h : Q (.int (l.length : Int) (s.toks + 1)) { s with toks := s.toks + 1 + 1 }) : wpAny (model prog w) A (call (.builtin "len") [.str (S l) t]) Q E s :=
  P.len_str (by rw [S_len]; lia) (by rw [S_len]; exact h)
theorem add_S (hl : l.length + b.length ≤ 10000000) (h : ∀ t' k, Q (.str (S (l ++ b)) t') { s with toks := k }) : wpAny (model prog w) A (binaryOp .Add (.str (S l) t) (.str (S b) u)) Q E s := by
  refine KOpn.add (by rw [S_len, S_len]; lia) fun t' k _ => ?_
  rw [S_app]
  exact h t' k
theorem item_S {k : Nat} (hk : k < l.length) (hl : l.length ≤ 10000000) (h : Q (.str (S [l.getD k 0]) s.toks) { s with toks := s.toks + 1 })
    (hs : subscripted slice false (.str (S l) t) (.int (k : Int) u) = operate [.str (S l) t, .int (k : Int) u] (getItem (.str (S l) t) (.int (k : Int) u)) := by with_unfolding_all rfl)
    (ht : ∀ r, letTemporaryGo value (.str (S l) t) r = pure () := by intro _; with_unfolding_all rfl) :
    wpAny (model prog w) A (subscriptTail value slice (.str (S l) t) (.int (k : Int) u)) Q E s := by
  refine KXi.item (S_len l) (by lia) (by lia) (by lia) (fun _ => ?_) hs ht
  have e : Txt.item (S l) (k : Int) = S [l.getD k 0] := by
    have e1 : seqIndex? (k : Int) (S l).length = some k := by
      unfold seqIndex?
      rw [S_len, if_neg (show ¬ ((k : Int) < 0) by lia), if_pos (by simp; lia)]
      rfl
    unfold Txt.item Txt.charAt
    rw [e1]
    show (⟨#[((S l).cps[k]?).getD 0]⟩ : Str) = _
    simp [List.getD_eq_getElem?_getD]
  rw [e]; exact h
theorem item_Si {i : Int} (h0 : 0 ≤ i) (hk : i < (l.length : Int)) (hl : l.length ≤ 10000000) (h : Q (.str (S [l.getD i.toNat 0]) s.toks) { s with toks := s.toks + 1 })
    (hs : subscripted slice false (.str (S l) t) (.int i u) = operate [.str (S l) t, .int i u] (getItem (.str (S l) t) (.int i u)) := by with_unfolding_all rfl)
    (ht : ∀ r, letTemporaryGo value (.str (S l) t) r = pure () := by intro _; with_unfolding_all rfl) :
    wpAny (model prog w) A (subscriptTail value slice (.str (S l) t) (.int i u)) Q E s := by
  obtain ⟨k, rfl⟩ := Int.eq_ofNat_of_zero_le h0
  exact item_S (k := k) (by lia) hl (by simpa using h) hs ht
theorem last_S (hk : l ≠ []) (hl : l.length ≤ 10000000) (h : Q (.str (S [l.getLastD 0]) s.toks) { s with toks := s.toks + 1 })
    (hs : subscripted slice false (.str (S l) t) (.int (-1) u) = operate [.str (S l) t, .int (-1) u] (getItem (.str (S l) t) (.int (-1) u)) := by with_unfolding_all rfl)
    (ht : ∀ r, letTemporaryGo value (.str (S l) t) r = pure () := by intro _; with_unfolding_all rfl) :
    wpAny (model prog w) A (subscriptTail value slice (.str (S l) t) (.int (-1) u)) Q E s := by
  have hp : 0 < l.length := List.length_pos_iff.mpr hk
  refine KXi.item (S_len l) (by lia) (by lia) (by lia) (fun _ => ?_) hs ht
  have e : Txt.item (S l) (-1) = S [l.getLastD 0] := by
    have e1 : seqIndex? (-1) (S l).length = some (l.length - 1) := by
      unfold seqIndex?
      rw [S_len, if_pos (show (-1 : Int) < 0 by decide), if_pos (by simp; lia)]
      congr 1
      obtain ⟨n, hn⟩ : ∃ n, l.length = n + 1 := ⟨_, (Nat.succ_pred_eq_of_pos hp).symm⟩
      rw [hn]
      lia
    unfold Txt.item Txt.charAt
    rw [e1]
    show (⟨#[((S l).cps[l.length - 1]?).getD 0]⟩ : Str) = _
    simp [List.getLastD_eq_getLast?, List.getLast?_eq_getElem?]
  rw [e]; exact h
theorem ord_S {c : Nat} (h : Q (.int (c : Int) s.toks) { s with toks := s.toks + 1 }) : wpAny (model prog w) A (call (.builtin "ord") [.str (S [c]) t]) Q E s := P.ord_of_char h
theorem eq_S (h : Q (.bool (decide (l = b))) s) : wpAny (model prog w) A (compareOp .Eq (.str (S l) t) (.str (S b) u)) Q E s := by
  refine P.eq_str ?_
  have e : ((S l).cps.toList == (S b).cps.toList) = decide (l = b) := by
    show (l == b) = _
    rw [Bool.eq_iff_iff]; simp
  rw [e]; exact h
theorem ne_S (h : Q (.bool (decide (l ≠ b))) s) : wpAny (model prog w) A (compareOp .NotEq (.str (S l) t) (.str (S b) u)) Q E s := by
  refine P.ne_str ?_
  have e : ((S l).cps.toList != (S b).cps.toList) = decide (l ≠ b) := by
    show (l != b) = _
    rw [Bool.eq_iff_iff]; simp
  rw [e]; exact h
theorem truthy_S {Q : Bool → Shared → Prop} (hl : l.length ≤ 10000000) (h : Q (decide (l ≠ [])) { s with toks := s.toks + 1 + 1 }) : wpAny (model prog w) A (truthy (.str (S l) t)) Q E s := by
  refine P.truthy_str (by rw [S_len]; lia) ?_
  have e : (((S l).length : Int) != 0) = decide (l ≠ []) := by
    rw [S_len, Bool.eq_iff_iff]; simp
  rw [e]; exact h

theorem part_S {a n : Nat} {ui uj : Tok} (hF : Fr h₀ L s.heap m) (hN : News h₀ L s.heap news) (hl : l.length ≤ 10000000) (h : ∀ h' t' k, Fr h₀ L h' m → News h₀ L h' news → Q (.str (S ((l.drop a).take n)) t') { s with heap := h', toks := k })
    (hs : subscripted slice false (.str (S l) t) (.ref s.heap.objs.size) = operate [.ref s.heap.objs.size, .str (S l) t] (getItem (.str (S l) t) (.ref s.heap.objs.size)) := by with_unfolding_all rfl)
    (ht : ∀ r, letTemporaryGo value (.str (S l) t) r = pure () := by intro _; with_unfolding_all rfl) :
    wpAny (model prog w) A (subscriptTail value slice (.str (S l) t) (.ref s.heap.objs.size)) Q E { s with heap := s.heap.push { cls := .type "slice", data := .fields #[.int (a : Int) ui, .int ((a : Int) + (n : Int)) uj, .none] } } :=
  slice_strN_ss hF hN (fun h' t' k F N => by rw [slice_part]; exact h h' t' k F N) hs ht (by rw [S_len, PySem.sizeLine_eq]; lia)
theorem mid_S {a n : Nat} {ui uj : Tok} (hF : Fr h₀ L s.heap m) (hN : News h₀ L s.heap news) (hl : l.length ≤ 10000000) (h : ∀ h' t' k, Fr h₀ L h' m → News h₀ L h' news → Q (.str (S ((l.take n).drop a)) t') { s with heap := h', toks := k })
    (hs : subscripted slice false (.str (S l) t) (.ref s.heap.objs.size) = operate [.ref s.heap.objs.size, .str (S l) t] (getItem (.str (S l) t) (.ref s.heap.objs.size)) := by with_unfolding_all rfl)
    (ht : ∀ r, letTemporaryGo value (.str (S l) t) r = pure () := by intro _; with_unfolding_all rfl) :
    wpAny (model prog w) A (subscriptTail value slice (.str (S l) t) (.ref s.heap.objs.size)) Q E { s with heap := s.heap.push { cls := .type "slice", data := .fields #[.int (a : Int) ui, .int (n : Int) uj, .none] } } :=
  slice_strN_ss hF hN (fun h' t' k F N => by rw [slice_mid]; exact h h' t' k F N) hs ht (by rw [S_len, PySem.sizeLine_eq]; lia)
theorem take_S {n : Nat} {uj : Tok} (hF : Fr h₀ L s.heap m) (hN : News h₀ L s.heap news) (hl : l.length ≤ 10000000) (h : ∀ h' t' k, Fr h₀ L h' m → News h₀ L h' news → Q (.str (S (l.take n)) t') { s with heap := h', toks := k })
    (hs : subscripted slice false (.str (S l) t) (.ref s.heap.objs.size) = operate [.ref s.heap.objs.size, .str (S l) t] (getItem (.str (S l) t) (.ref s.heap.objs.size)) := by with_unfolding_all rfl)
    (ht : ∀ r, letTemporaryGo value (.str (S l) t) r = pure () := by intro _; with_unfolding_all rfl) :
    wpAny (model prog w) A (subscriptTail value slice (.str (S l) t) (.ref s.heap.objs.size)) Q E { s with heap := s.heap.push { cls := .type "slice", data := .fields #[.none, .int (n : Int) uj, .none] } } :=
  slice_strN_ns hF hN (fun h' t' k F N => by rw [slice_take]; exact h h' t' k F N) hs ht (by rw [S_len, PySem.sizeLine_eq]; lia)
theorem drop_S {n : Nat} {uj : Tok} (hF : Fr h₀ L s.heap m) (hN : News h₀ L s.heap news) (hl : l.length ≤ 10000000) (h : ∀ h' t' k, Fr h₀ L h' m → News h₀ L h' news → Q (.str (S (l.drop n)) t') { s with heap := h', toks := k })
    (hs : subscripted slice false (.str (S l) t) (.ref s.heap.objs.size) = operate [.ref s.heap.objs.size, .str (S l) t] (getItem (.str (S l) t) (.ref s.heap.objs.size)) := by with_unfolding_all rfl)
    (ht : ∀ r, letTemporaryGo value (.str (S l) t) r = pure () := by intro _; with_unfolding_all rfl) :
    wpAny (model prog w) A (subscriptTail value slice (.str (S l) t) (.ref s.heap.objs.size)) Q E { s with heap := s.heap.push { cls := .type "slice", data := .fields #[.int (n : Int) uj, .none, .none] } } :=
  slice_strN_sn hF hN (fun h' t' k F N => by rw [slice_drop]; exact h h' t' k F N) hs ht (by rw [S_len, PySem.sizeLine_eq]; lia)
theorem init_S {uj : Tok} (hF : Fr h₀ L s.heap m) (hN : News h₀ L s.heap news) (hl : l.length ≤ 10000000) (h : ∀ h' t' k, Fr h₀ L h' m → News h₀ L h' news → Q (.str (S l.dropLast) t') { s with heap := h', toks := k })
    (hs : subscripted slice false (.str (S l) t) (.ref s.heap.objs.size) = operate [.ref s.heap.objs.size, .str (S l) t] (getItem (.str (S l) t) (.ref s.heap.objs.size)) := by with_unfolding_all rfl)
    (ht : ∀ r, letTemporaryGo value (.str (S l) t) r = pure () := by intro _; with_unfolding_all rfl) :
    wpAny (model prog w) A (subscriptTail value slice (.str (S l) t) (.ref s.heap.objs.size)) Q E { s with heap := s.heap.push { cls := .type "slice", data := .fields #[.none, .int (-1) uj, .none] } } :=
  slice_strN_ns hF hN (fun h' t' k F N => by rw [slice_init]; exact h h' t' k F N) hs ht (by rw [S_len, PySem.sizeLine_eq]; lia)

theorem crlf_len : ∀ l : List Nat, (crlf l).length ≤ l.length
  | [] => Nat.le_refl _
  | [_] => Nat.le_refl _
  | c :: d :: r => by
    rw [crlf]
    split
    · have := crlf_len r; simp only [List.length_cons]; lia
    · have := crlf_len (d :: r); simp only [List.length_cons] at *; lia
theorem crs_len (l : List Nat) : (crs l).length = l.length := by simp [crs]
theorem norm_len (l : List Nat) : (norm l).length ≤ l.length := by unfold norm; rw [crs_len]; exact crlf_len l
theorem repl_crlf_S {y z : Str} (hy : y = ⟨#[13, 10]⟩) (hz : z = ⟨#[10]⟩) (hu : u ≠ 0) (hv : v ≠ 0) (huv : u ≠ v) (hl : l.length ≤ 1000000) (h : ∀ t' k, s.toks ≤ k → Q (.str (S (crlf l)) t') { s with toks := k }) :
    wpAny (model prog w) A (call (.builtin "str.replace") [.str (S l) t, .str y u, .str z v]) Q E s := by
  subst hy; subst hz
  refine wpAny_with_toks (Nat.le_refl s.toks) (SC.replace hu hv huv (by decide) (by rw [S_len]; show l.length + (l.length + 1) * 1 ≤ _; lia) fun t' k => ?_)
  intro hk
  rw [replace_crlf]; exact h t' k hk
theorem repl_cr_S {y z : Str} (hy : y = ⟨#[13]⟩) (hz : z = ⟨#[10]⟩) (hu : u ≠ 0) (hv : v ≠ 0) (huv : u ≠ v) (hl : l.length ≤ 1000000) (h : ∀ t' k, s.toks ≤ k → Q (.str (S (crs l)) t') { s with toks := k }) :
    wpAny (model prog w) A (call (.builtin "str.replace") [.str (S l) t, .str y u, .str z v]) Q E s := by
  subst hy; subst hz
  refine wpAny_with_toks (Nat.le_refl s.toks) (SC.replace hu hv huv (by decide) (by rw [S_len]; show l.length + (l.length + 1) * 1 ≤ _; lia) fun t' k => ?_)
  intro hk
  rw [replace_cr]; exact h t' k hk
end
end Mine
namespace Mine
open PySem.Builtin PySem.Builtin.Str PySem.StrLaws PySem.Calls

section
variable {prog : Program} {w : World} {A : Around} {E : Value → Shared → Prop} {s : Shared} {env : Env} {h₀ : Heap} {x : PySem.Str} {body : List Stmt} {Q : Flow → Shared → Prop}
/-- a loop over a text's signs: loop_invN over the text's own iterator -/
theorem loop_S {l : List Nat} {tx : Tok} {m₀ : PySem.Str → Option Value} {news : List (Addr × Obj)} (J : Nat → (PySem.Str → Option Value) → List (Addr × Obj) → Prop)
    (hh : A.handled = none) (F : Fr h₀ env.locals s.heap m₀) (N : News h₀ env.locals s.heap news) (hj : J 0 m₀ news)
    (turn : ∀ i c t m₁ news₁ h tk own, l[i]? = some c → news₁.map (·.1) = news.map (·.1) → OwnOff own (news.map (·.1)) → J i m₁ news₁ → Fr h₀ env.locals h (fun y => if y = x then some (.str (S [c]) t) else m₁ y) → News h₀ env.locals h (news₁ ++ own) →
      wpAny (model prog w) A (execs body env) (InvPostN h₀ env.locals (J (i + 1)) own (news.map (·.1)) { s with heap := h, toks := tk } Q) E { s with heap := h, toks := tk })
    (done : ∀ m₁ news₁ h tk, J l.length m₁ news₁ → Fr h₀ env.locals h m₁ → News h₀ env.locals h news₁ → Q .next { s with heap := h, toks := tk }) :
    wpAny (model prog w) A (pyIter (.str (S l) tx)) (fun it s₂ => LoopAtV prog w A h₀ env x body Q E it s₂) E s :=
  wpAny_pyIter_str fun o St walks st0 =>
    have own1 : env.locals ∉ [s.heap.objs.size] := by rw [List.mem_singleton]; exact Nat.ne_of_lt F.ns.lt
    have fresh : ∀ b ∈ [s.heap.objs.size], h₀.get? b = none := by simpa using next_is_new F
    have apart : ∀ p ∈ news, p.1 ∉ [s.heap.objs.size] := fun p hp => by rw [List.mem_singleton]; exact N.apart p hp
    loop_invN J (walks A hh) own1 fresh apart apart st0 (F.push o) (N.grown fun _ _ => Heap.get?_push_of_some o) hj
      (fun i v m₁ nx h tk own _ sign adr off hJ F₁ N₁ => by
        obtain ⟨c, t, hc, hv⟩ := sign
        subst hv
        exact turn i c t m₁ nx h tk own ((List.getElem?_toArray (xs := l)).symm.trans hc) adr off hJ F₁ N₁)
      fun m₁ nx h tk hJ F₁ N₁ => done m₁ nx h tk (S_len l ▸ hJ) F₁ N₁

/-- an end that keeps the addresses is an end of the growing kind -/
theorem InvPostN.grows {g : Heap} {L : Addr} {J J' : (PySem.Str → Option Value) → List (Addr × Obj) → Prop} {own : List (Addr × Obj)} {adr : List Addr} {s₁ s₂ : Shared} {f : Flow} (off : OwnOff own adr) (hJ : ∀ m nx, nx.map (·.1) = adr → J m nx → J' m nx) :
    InvPostN g L J own adr s₁ Q f s₂ → InvPostG g L J' own s₁ Q f s₂ := by
  have up : InvEndN g L J own adr s₁ s₂ → InvEndG g L J' own s₁ s₂ := fun ⟨_, _, _, _, nx, e, F', N', hn, ho, ha, hm⟩ => e ▸ InvEndG.intro F' N' (hJ _ _ ha hm) (ha.symm ▸ off) hn ho
  cases f with
  | next => exact up
  | cont => exact up
  | brk => exact fun p => p
  | ret v => exact fun p => p
/-- a loop over a list of the ledger whose turns keep the ledger's addresses: kdl_iter, the addresses in the invariant -/
theorem loop_L {l : Addr} {vs : List Value} {nn : Nat} {m₀ : PySem.Str → Option Value} {news : List (Addr × Obj)} (J : Nat → (PySem.Str → Option Value) → List (Addr × Obj) → Prop)
    (hh : A.handled = none) (hl : (l, W.listOf vs.toArray nn) ∈ news) (F : Fr h₀ env.locals s.heap m₀) (N : News h₀ env.locals s.heap news) (hj : J 0 m₀ news)
    (turn : ∀ i v m₁ news₁ h tk own, vs[i]? = some v → news₁.map (·.1) = news.map (·.1) → OwnOff own (news.map (·.1)) → (l, W.listOf vs.toArray nn) ∈ news₁ → J i m₁ news₁ → Fr h₀ env.locals h (fun y => if y = x then some v else m₁ y) → News h₀ env.locals h (news₁ ++ own) →
      wpAny (model prog w) A (execs body env) (InvPostN h₀ env.locals (fun m' nx => (l, W.listOf vs.toArray nn) ∈ nx ∧ J (i + 1) m' nx) own (news.map (·.1)) { s with heap := h, toks := tk } Q) E { s with heap := h, toks := tk })
    (done : ∀ m₁ news₁ h tk, (l, W.listOf vs.toArray nn) ∈ news₁ → J vs.length m₁ news₁ → Fr h₀ env.locals h m₁ → News h₀ env.locals h news₁ → Q .next { s with heap := h, toks := tk }) :
    wpAny (model prog w) A (pyIter (.ref l)) (fun it s₂ => LoopAtV prog w A h₀ env x body Q E it s₂) E s :=
  kdl_iter (fun i m nx => (l, W.listOf vs.toArray nn) ∈ nx ∧ nx.map (·.1) = news.map (·.1) ∧ J i m nx) hh hl F N ⟨hl, rfl, hj⟩
    (fun i v m₁ nx h tk own hv off hm hJ F₁ N₁ =>
      have off' : OwnOff own (news.map (·.1)) := hJ.2.1 ▸ off
      wpAny_mono (turn i v m₁ nx h tk own hv hJ.2.1 off' hm hJ.2.2 F₁ N₁) (fun _ _ => InvPostN.grows off' fun _ _ ha hq => ⟨hq.1, hq.1, ha, hq.2⟩) fun _ _ e => e)
    fun m₁ nx h tk hJ => done m₁ nx h tk hJ.1 hJ.2.2

/-- the same with the frame's map at the start handed to the word -/
theorem loop_Sm {l : List Nat} {tx : Tok} {m₀ : PySem.Str → Option Value} {news : List (Addr × Obj)} (J : (PySem.Str → Option Value) → Nat → (PySem.Str → Option Value) → List (Addr × Obj) → Prop)
    (hh : A.handled = none) (F : Fr h₀ env.locals s.heap m₀) (N : News h₀ env.locals s.heap news) (hj : J m₀ 0 m₀ news)
    (turn : ∀ i c t m₁ news₁ h tk own, l[i]? = some c → news₁.map (·.1) = news.map (·.1) → OwnOff own (news.map (·.1)) → J m₀ i m₁ news₁ → Fr h₀ env.locals h (fun y => if y = x then some (.str (S [c]) t) else m₁ y) → News h₀ env.locals h (news₁ ++ own) →
      wpAny (model prog w) A (execs body env) (InvPostN h₀ env.locals (J m₀ (i + 1)) own (news.map (·.1)) { s with heap := h, toks := tk } Q) E { s with heap := h, toks := tk })
    (done : ∀ m₁ news₁ h tk, J m₀ l.length m₁ news₁ → Fr h₀ env.locals h m₁ → News h₀ env.locals h news₁ → Q .next { s with heap := h, toks := tk }) :
    wpAny (model prog w) A (pyIter (.str (S l) tx)) (fun it s₂ => LoopAtV prog w A h₀ env x body Q E it s₂) E s := loop_S (J m₀) hh F N hj turn done
theorem loop_Lm {l : Addr} {vs : List Value} {nn : Nat} {m₀ : PySem.Str → Option Value} {news : List (Addr × Obj)} (J : (PySem.Str → Option Value) → Nat → (PySem.Str → Option Value) → List (Addr × Obj) → Prop)
    (hh : A.handled = none) (hl : (l, W.listOf vs.toArray nn) ∈ news) (F : Fr h₀ env.locals s.heap m₀) (N : News h₀ env.locals s.heap news) (hj : J m₀ 0 m₀ news)
    (turn : ∀ i v m₁ news₁ h tk own, vs[i]? = some v → news₁.map (·.1) = news.map (·.1) → OwnOff own (news.map (·.1)) → (l, W.listOf vs.toArray nn) ∈ news₁ → J m₀ i m₁ news₁ → Fr h₀ env.locals h (fun y => if y = x then some v else m₁ y) → News h₀ env.locals h (news₁ ++ own) →
      wpAny (model prog w) A (execs body env) (InvPostN h₀ env.locals (fun m' nx => (l, W.listOf vs.toArray nn) ∈ nx ∧ J m₀ (i + 1) m' nx) own (news.map (·.1)) { s with heap := h, toks := tk } Q) E { s with heap := h, toks := tk })
    (done : ∀ m₁ news₁ h tk, (l, W.listOf vs.toArray nn) ∈ news₁ → J m₀ vs.length m₁ news₁ → Fr h₀ env.locals h m₁ → News h₀ env.locals h news₁ → Q .next { s with heap := h, toks := tk }) :
    wpAny (model prog w) A (pyIter (.ref l)) (fun it s₂ => LoopAtV prog w A h₀ env x body Q E it s₂) E s := loop_L (J m₀) hh hl F N hj turn done
theorem mix1 (x : PySem.Str) (m₀ : PySem.Str → Option Value) : ∃ u : Option Value, m₀ = fun z => if z = x then u else m₀ z := ⟨m₀ x, funext fun _ => lit1 rfl fun _ => rfl⟩
end

theorem noBool_method : typeLookup (.type "method") "__bool__" = pure none := by rw [typeLookup_type, builtinLookup_eq_fast]; kernel_rfl
theorem noLen_method : typeLookup (.type "method") "__len__" = pure none := by rw [typeLookup_type, builtinLookup_eq_fast]; kernel_rfl
theorem truthy_meth {M : Model} {A : Around} {E : Value → Shared → Prop} {s : Shared} {h₀ : Heap} {L q : Addr} {f self : Value} {news : List (Addr × Obj)} {Q : Bool → Shared → Prop} (N : News h₀ L s.heap news) (hq : (q, methodObj f self) ∈ news) (h : Q true s) :
    wpAny M A (truthy (.ref q)) Q E s := by
  have ho : s.heap.get? q = some (methodObj f self) := (N _ hq).1
  unfold truthy
  refine wpAny_bind (m := callSpecial? (.ref q) (PySem.Str.ofString "__bool__")) (wpAny_bind (wpAny_bind (wpAny_typeOf_ref ho ?_)))
  show wpAny M A (typeLookup (.type "method") "__bool__") _ _ _
  rw [noBool_method]
  refine wpAny_pure (wpAny_pure ?_)
  refine wpAny_bind (wpAny_bind (wpAny_typeOf_ref ho ?_))
  show wpAny M A (typeLookup (.type "method") "__len__") _ _ _
  rw [noLen_method]
  exact wpAny_pure (wpAny_pure h)

theorem gen_toks {α : Type} {M : Model} {A : Around} {t : Sem α} {Q : α → Shared → Prop} {E : Value → Shared → Prop} {s : Shared} (hp : (1 : Nat) ≤ s.toks) (k : ∀ tk : Nat, (1 : Nat) ≤ tk → wpAny M A t Q E { s with toks := tk }) : wpAny M A t Q E s := k s.toks hp

/-! ### ways that meet behind a statement -/
def JoinN (n : Nat) (g : Heap) (L : Addr) (s : Shared) (P : (PySem.Str → Option Value) → List (Addr × Obj) → Prop) (s' : Shared) : Prop :=
  ∃ h' tk' m' nw', s' = { s with heap := h', toks := tk' } ∧ n ≤ tk' ∧ P m' nw' ∧ Fr g L h' m' ∧ News g L h' nw'
def JoinP (n : Nat) (g : Heap) (L : Addr) (s : Shared) (P : (PySem.Str → Option Value) → List (Addr × Obj) → Prop) (Q : Flow → Shared → Prop) (f : Flow) (s' : Shared) : Prop :=
  match f with
  | .next => JoinN n g L s P s'
  | f => Q f s'
theorem join_if {n : Nat} {M : Model} {A : Around} {t : Sem Flow} {E : Value → Shared → Prop} {s : Shared} {g : Heap} {L : Addr} {m : PySem.Str → Option Value} {Q : Flow → Shared → Prop} (F : Fr g L s.heap m) (P : (PySem.Str → Option Value) → List (Addr × Obj) → Prop)
    (h1 : wpAny M A t (JoinP n g L s P Q) E s)
    (h2 : ∀ (h' : Heap) (tk' : Nat) (m' : PySem.Str → Option Value) (nw' : List (Addr × Obj)), n ≤ tk' → P m' nw' → Fr g L h' m' → News g L h' nw' → Q .next { s with heap := h', toks := tk' }) : wpAny M A t Q E s :=
  wpAny_mono h1 (fun f s' h => by
    cases f with
    | next => obtain ⟨h', tk', m', nw', rfl, ht, hP, F', N'⟩ := h; exact h2 h' tk' m' nw' ht hP F' N'
    | brk => exact h
    | cont => exact h
    | ret v => exact h) (fun _ _ h => h)
theorem join_end {n : Nat} {g : Heap} {L : Addr} {s : Shared} {P : (PySem.Str → Option Value) → List (Addr × Obj) → Prop} {h' : Heap} {tk' : Nat} {m' : PySem.Str → Option Value} {nw' : List (Addr × Obj)} (F : Fr g L h' m') (N : News g L h' nw') (ht : n ≤ tk') (hP : P m' nw') : JoinN n g L s P { s with heap := h', toks := tk' } :=
  ⟨h', tk', m', nw', rfl, ht, hP, F, N⟩

theorem mixL {x : PySem.Str} {m' k : PySem.Str → Option Value} (h : ∀ z, z ≠ x → m' z = k z) : ∃ u, m' = fun z => if z = x then u else k z :=
  ⟨m' x, by
    funext z
    by_cases hz : z = x
    · rw [if_pos hz, hz]
    · rw [if_neg hz]; exact h z hz⟩
end Mine
namespace Mine
open PySem.Builtin PySem.Builtin.Str PySem.StrLaws PySem.Calls

/-! ### mended texts -/
theorem norm_cr_lf (t : List Nat) : norm (13 :: 10 :: t) = 10 :: norm t := by
  unfold norm
  rw [crlf, if_pos ⟨rfl, rfl⟩]
  rfl
theorem norm_cons (c : Nat) (l : List Nat) (h : ¬ (c = 13 ∧ l.head? = some 10)) : norm (c :: l) = (if c = 13 then 10 else c) :: norm l := by
  unfold norm
  cases l with
  | nil => rfl
  | cons d t =>
    rw [crlf, if_neg (fun q => h ⟨q.1, by rw [q.2]; rfl⟩)]
    rfl
theorem norm_app : ∀ (a b : List Nat), ¬ (a.getLast? = some 13 ∧ b.head? = some 10) → norm (a ++ b) = norm a ++ norm b
  | [], b, _ => rfl
  | [c], b, h => by
    show norm (c :: b) = _
    rw [norm_cons c b (fun q => h ⟨by rw [q.1]; rfl, q.2⟩)]
    rfl
  | c :: d :: t, b, h => by
    by_cases q : c = 13 ∧ d = 10
    · obtain ⟨rfl, rfl⟩ := q
      rw [List.cons_append, List.cons_append, norm_cr_lf, norm_cr_lf]
      rw [norm_app t b ?_]
      · rfl
      · intro g
        refine h ⟨?_, g.2⟩
        cases t with
        | nil => exact absurd g.1 (by simp)
        | cons e r => rw [List.getLast?_cons_cons, List.getLast?_cons_cons]; exact g.1
    · rw [norm_cons c (d :: t) (fun g => q ⟨g.1, by simpa using g.2⟩), List.cons_append, norm_cons c (d :: t ++ b) (fun g => q ⟨g.1, by simpa using g.2⟩), norm_app (d :: t) b ?_]
      · rfl
      · intro g
        exact h ⟨by rw [List.getLast?_cons_cons]; exact g.1, g.2⟩
/-- the signs that a sign gives behind another -/
def mendS (b : Option Nat) (c : Nat) : List Nat := if c = 13 then [10] else if c = 10 ∧ b = some 13 then [] else [c]
def mend : Option Nat → List Nat → List Nat
  | _, [] => []
  | b, c :: r => mendS b c ++ mend (some c) r
theorem mend_norm : ∀ (l : List Nat) (b : Option Nat), mend b l = if b = some 13 ∧ l.head? = some 10 then norm l.tail else norm l
  | [], b => by simp [mend, norm, crlf, crs]
  | c :: r, b => by
    rw [mend, mend_norm r (some c)]
    by_cases h1 : b = some 13 ∧ c = 10
    · obtain ⟨rfl, rfl⟩ := h1
      simp [mendS]
    · rw [show (if b = some 13 ∧ (c :: r).head? = some 10 then norm (c :: r).tail else norm (c :: r)) = norm (c :: r) from if_neg (fun q => h1 ⟨q.1, by simpa using q.2⟩)]
      unfold mendS
      by_cases h2 : c = 13
      · subst h2
        rw [if_pos rfl]
        by_cases h3 : r.head? = some 10
        · rw [if_pos ⟨rfl, h3⟩]
          cases r with
          | nil => simp at h3
          | cons d t =>
            have : d = 10 := by simpa using h3
            subst this
            rw [norm_cr_lf]
            rfl
        · rw [if_neg (fun q => h3 q.2), norm_cons _ _ (fun q => h3 q.2)]
          rfl
      · rw [if_neg h2, if_neg (fun q => h1 ⟨q.2, q.1⟩), if_neg (fun q => h2 (by simpa using q.1)), norm_cons _ _ (fun q => h2 q.1), if_neg h2]
        rfl
theorem mend_none (l : List Nat) : mend none l = norm l := by rw [mend_norm]; simp
theorem mend_snoc : ∀ (l : List Nat) (b : Option Nat) (c : Nat), mend b (l ++ [c]) = mend b l ++ mendS (match l.getLast? with | some d => some d | none => b) c
  | [], b, c => by simp [mend]
  | d :: r, b, c => by
    rw [List.cons_append, mend, mend, mend_snoc r (some d) c, List.append_assoc]
    congr 3
    cases r with
    | nil => rfl
    | cons e t => rw [List.getLast?_cons_cons]; cases h : (e :: t).getLast? with | none => simp at h | some z => rfl
theorem mend_take {l : List Nat} {i c : Nat} (h : l[i]? = some c) : mend none (l.take (i + 1)) = mend none (l.take i) ++ mendS (l.take i).getLast? c := by
  rw [List.take_add_one, h]
  show mend none (l.take i ++ [c]) = _
  rw [mend_snoc]
  cases (l.take i).getLast? <;> rfl
theorem last_take {l : List Nat} {i c : Nat} (h : l[i]? = some c) : (l.take (i + 1)).getLast? = some c := by
  rw [List.take_add_one, h]
  simp
theorem mend_len (l : List Nat) : (mend none l).length ≤ l.length := by rw [mend_none]; exact norm_len l

theorem mendS_a {b : Option Nat} {c : Nat} (h : [c] = [13]) : mendS b c = [10] := by unfold mendS; rw [if_pos (by simpa using h)]
theorem mendS_b {b : Option Nat} {c : Nat} (h : ¬ [c] = [13]) (h2 : [c] ≠ [10]) : mendS b c = [c] := by
  unfold mendS
  rw [if_neg (by simpa using h), if_neg (fun q => h2 (by rw [q.1]))]
theorem mendS_c {b : Option Nat} {c : Nat} (h : ¬ [c] = [13]) (h2 : b.toList ≠ [13]) : mendS b c = [c] := by
  unfold mendS
  rw [if_neg (by simpa using h), if_neg (fun q => h2 (by rw [q.2]; rfl))]
theorem mendS_d {b : Option Nat} {c : Nat} (h : ¬ [c] = [13]) (h2 : ¬ [c] ≠ [10]) (h3 : ¬ b.toList ≠ [13]) : mendS b c = [] := by
  unfold mendS
  have e2 := Decidable.not_not.mp h2
  have e3 := Decidable.not_not.mp h3
  rw [if_neg (by simpa using h), if_pos ⟨by simpa using e2, by cases b <;> simp_all⟩]
/-! ### the cut -/
def cutR (raw : List Nat) (start taken : Nat) : Nat := if raw.getD (taken - 1) 0 = 13 ∧ start < taken - 1 then taken - 1 else taken
theorem cut_a {l : List Nat} {start k : Nat} (h : [l.getD (((k + 1 : Nat) : Int) - 1).toNat 0] = [13]) (h2 : (start : Int) < ((k + 1 : Nat) : Int) - 1) : ((k + 1 : Nat) : Int) - 1 = (cutR l start (k + 1) : Nat) := by
  have e : (((k + 1 : Nat) : Int) - 1).toNat = k := by lia
  rw [e] at h
  unfold cutR
  rw [if_pos ⟨by simpa using h, by lia⟩]
  lia
theorem cut_b {l : List Nat} {start k : Nat} (h2 : ¬ (start : Int) < ((k + 1 : Nat) : Int) - 1) : ((k + 1 : Nat) : Int) = (cutR l start (k + 1) : Nat) := by
  unfold cutR
  rw [if_neg (fun q => h2 (by lia))]
theorem cut_c {l : List Nat} {start k : Nat} (h : ¬ [l.getD (((k + 1 : Nat) : Int) - 1).toNat 0] = [13]) : ((k + 1 : Nat) : Int) = (cutR l start (k + 1) : Nat) := by
  have e : (((k + 1 : Nat) : Int) - 1).toNat = k := by lia
  rw [e] at h
  unfold cutR
  rw [if_neg (fun q => h (by simpa using q.1))]
/-! ### literals of one sign -/
section
variable {prog : Program} {w : World} {A : Around} {E : Value → Shared → Prop} {s : Shared} {l : List Nat} {y : Str} {t u : Tok} {Q : Value → Shared → Prop}
theorem eq_lit (b : List Nat) (hy : y = S b) (h : Q (.bool (decide (l = b))) s) : wpAny (model prog w) A (compareOp .Eq (.str (S l) t) (.str y u)) Q E s := by
  subst hy; exact eq_S h
theorem ne_lit (b : List Nat) (hy : y = S b) (h : Q (.bool (decide (l ≠ b))) s) : wpAny (model prog w) A (compareOp .NotEq (.str (S l) t) (.str y u)) Q E s := by
  subst hy; exact ne_S h
end
end Mine
namespace Mine
open PySem.Builtin PySem.Builtin.Str PySem.StrLaws PySem.Calls

/-! ### list comprehensions by an invariant -/
section
variable {prog : Program} {w : World} {A : Around} {E : Value → Shared → Prop} {s : Shared} {h₀ : Heap} {L : Addr} {m : Str → Option Value} {env : Env}
theorem rest_inv {elt : Expr} {x : Str} {scope : Scope} {cl : List (Str × Addr)} {SS : List (Addr × Obj) → Prop} {P : Nat → Value → Prop} {Fin : List Value → List (Addr × Obj) → Prop} {n : Nat} {news : List (Addr × Obj)}
    (J : Nat → List Value → List (Addr × Obj) → Prop) (hj : J 0 [] news)
    (turn : ∀ i v ys nw I oI C oC D m₂ h tk (E' : Value → Shared → Prop), i < n → P i v → J i ys nw → LCg.NsObj oC m₂ → m₂ x = some v → Fr h₀ L h m → News h₀ L h ((I, oI) :: (C, oC) :: (D, LCg.lst ys) :: nw) → LCg.Off3 I C D nw → ((@Ne Nat I C) ∧ (@Ne Nat I D) ∧ (@Ne Nat C D)) →
      wpAny (model prog w) A (eval elt (compEnvC scope cl C env)) (LCg.CompEnd h₀ L m { s with heap := h, toks := tk } I oI C oC D (LCg.lst ys) SS (fun y nw' => J (i + 1) (ys ++ [y]) nw')) E' { s with heap := h, toks := tk })
    (done : ∀ ys nw, J n ys nw → Fin ys nw) : LCg.CompRest prog w A h₀ L m env elt x scope cl s SS P Fin n 0 [] news := by
  have key : ∀ (j i : Nat) (ys : List Value) (nw : List (Addr × Obj)), i + j = n → J i ys nw → LCg.CompRest prog w A h₀ L m env elt x scope cl s SS P Fin j i ys nw := by
    intro j
    induction j with
    | zero =>
      intro i ys nw hi hy
      obtain rfl : i = n := by lia
      exact LCg.CompRest.zero (done ys nw hy)
    | succ j ih =>
      intro i ys nw hi hy
      refine LCg.CompRest.succ fun v I oI C oC D m₂ h tk E' hv hC hx F N off ne => ?_
      refine wpAny_mono (turn i v ys nw I oI C oC D m₂ h tk E' (by lia) hv hy hC hx F N off ne) (fun y s₂ hq => ?_) fun _ _ e => e
      obtain ⟨h', tk', nw', e, F', N', off', hS, hJ⟩ := hq
      exact ⟨h', tk', nw', e, F', N', off', hS, ih (i + 1) _ _ (by lia) hJ⟩
  exact key n 0 [] news (by lia) hj
/-- the end of a turn, told of a weaker rest -/
theorem end_mono {I C D : Addr} {oI oC oD : Obj} {SS : List (Addr × Obj) → Prop} {r r' : Value → List (Addr × Obj) → Prop} {y : Value} {s₁ s₂ : Shared} (h : ∀ y nw, r y nw → r' y nw) : LCg.CompEnd h₀ L m s₁ I oI C oC D oD SS r y s₂ → LCg.CompEnd h₀ L m s₁ I oI C oC D oD SS r' y s₂ :=
  fun ⟨_, _, nw, e, F, N, off, q, z⟩ => e ▸ LCg.CompEnd.intro F N nw (fun _ hp => hp) off q (h y nw z)
theorem restT_inv {ct elt : Expr} {x : Str} {scope : Scope} {cl : List (Str × Addr)} {SS : List (Addr × Obj) → Prop} {P : Nat → Value → Prop} {Fin : List Value → List (Addr × Obj) → Prop} {n : Nat} {news : List (Addr × Obj)}
    (J : Nat → List Value → List (Addr × Obj) → Prop) (hj : J 0 [] news)
    (turn : ∀ i v ys nw I oI C oC D m₂ h tk (E' : Value → Shared → Prop), i < n → P i v → J i ys nw → LCg.NsObj oC m₂ → m₂ x = some v → Fr h₀ L h m → News h₀ L h ((I, oI) :: (C, oC) :: (D, LCg.lst ys) :: nw) → LCg.Off3 I C D nw → ((@Ne Nat I C) ∧ (@Ne Nat I D) ∧ (@Ne Nat C D)) →
      wpAny (model prog w) A (isTrue ct (compEnvC scope cl C env) (eval ct (compEnvC scope cl C env))) (fun ok s' => if ok = true then
        wpAny (model prog w) A (eval elt (compEnvC scope cl C env)) (LCg.CompEnd h₀ L m { s with heap := h, toks := tk } I oI C oC D (LCg.lst ys) SS (fun y nw' => J (i + 1) (ys ++ [y]) nw')) E' s'
        else LCg.CompEnd h₀ L m { s with heap := h, toks := tk } I oI C oC D (LCg.lst ys) SS (fun _ nw' => J (i + 1) ys nw') Value.none s') E' { s with heap := h, toks := tk })
    (done : ∀ ys nw, J n ys nw → Fin ys nw) : LCt.CompRestT prog w A h₀ L m env ct elt x scope cl s SS P Fin n 0 [] news := by
  have key : ∀ (j i : Nat) (ys : List Value) (nw : List (Addr × Obj)), i + j = n → J i ys nw → LCt.CompRestT prog w A h₀ L m env ct elt x scope cl s SS P Fin j i ys nw := by
    intro j
    induction j with
    | zero =>
      intro i ys nw hi hy
      obtain rfl : i = n := by lia
      exact LCt.CompRestT.zero (done ys nw hy)
    | succ j ih =>
      intro i ys nw hi hy
      refine LCt.CompRestT.succ fun v I oI C oC D m₂ h tk E' hv hC hx F N off ne => ?_
      have next : ∀ {y : Value} {us : List Value} {s₃ : Shared}, LCg.CompEnd h₀ L m { s with heap := h, toks := tk } I oI C oC D (LCg.lst ys) SS (fun _ nw' => J (i + 1) us nw') y s₃ → LCg.CompEnd h₀ L m { s with heap := h, toks := tk } I oI C oC D (LCg.lst ys) SS (fun _ nw' => LCt.CompRestT prog w A h₀ L m env ct elt x scope cl s SS P Fin j (i + 1) us nw') y s₃ :=
        end_mono fun _ nw' q => ih (i + 1) _ nw' (by lia) q
      exact wpAny_mono (turn i v ys nw I oI C oC D m₂ h tk E' (by lia) hv hy hC hx F N off ne) (fun ok s₂ hq => by
        by_cases e : ok = true
        · rw [if_pos e] at hq ⊢
          exact wpAny_mono hq (fun y s₃ q => end_mono (fun _ nw' q => ih (i + 1) _ nw' (by lia) q) q) fun _ _ q => q
        · rw [if_neg e] at hq ⊢
          exact next hq) fun _ _ q => q
  exact key n 0 [] news (by lia) hj

/-- what the iterable, a text, leaves: the turns -/
def SrcText (prog : Program) (w : World) (A : Around) (h₀ : Heap) (L : Addr) (m : Str → Option Value) (env : Env) (ct elt : Expr) (x : Str) (scope : Scope) (cl : List (Str × Addr)) (Fin : Shared → List Value → List (Addr × Obj) → Prop) (xv : Value) (s₁ : Shared) : Prop :=
  ∃ (l : List Nat) (t : Tok) (news : List (Addr × Obj)), xv = .str (S l) t ∧ A.handled = none ∧ Fr h₀ L s₁.heap m ∧ News h₀ L s₁.heap news ∧ l.length ≤ 10000000 ∧
    ∀ g, LCt.CompRestT prog w A h₀ L m env ct elt x scope cl { s₁ with heap := g } (fun _ => True) (fun i v => ∃ c t, l[i]? = some c ∧ v = .str (S [c]) t) (Fin { s₁ with heap := g }) l.length 0 [] news
variable {h h' : Heap} {mC : Str → Option Value} {D C : Addr} {ys : List Value} {nw : List (Addr × Obj)}
end
end Mine
namespace Mine
open PySem.Builtin PySem.Builtin.Str PySem.StrLaws PySem.Calls

/-! ### ledgers turned -/
section
variable {h₀ h : Heap} {L : Addr} {t a1 a2 a3 a4 a5 a6 a7 : Addr × Obj} {r : List (Addr × Obj)}
end
/-! ### what the stream's ways leave -/
structure Ok (R : List Nat) (st : St) : Prop where
  hR : R.length ≤ 1000
  hp : st.place ≤ 1000
  hc : st.chunk.length ≤ 10000
  he : st.errs ≤ 100000
  ho : st.off ≤ st.chunk.length

theorem fetch_len {R : List Nat} {size : Nat} {st : St} (hR : R.length ≤ 1000) : (st.fetch R size).chunk.length ≤ 2000 := by
  refine Nat.le_trans (norm_len _) (Nat.le_trans (split_len _) ?_)
  unfold St.data
  rw [List.length_append]
  have : st.buf.toList.length ≤ 1 := by cases st.buf <;> simp
  exact le3 (Nat.add_le_add this (Nat.le_trans (partOf_le _ _ _) hR)) rfl
end Mine
namespace Mine
open PySem.Builtin PySem.Builtin.Str PySem.StrLaws PySem.Calls PySem.Spec PyProof.V

/-! ### tuples and lists compared -/
section
variable {prog : Program} {w : World} {A : Around} {E : Value → Shared → Prop} {s : Shared} {h₀ : Heap} {L D D' : Addr} {news : List (Addr × Obj)} {Q : Value → Shared → Prop}
theorem ne_tup2 {a b a' b' : Int} {t u t' u' : Tok} {n n' : Nat} (N : News h₀ L s.heap news) (ha : (D, ({ cls := .type "tuple", data := .seq #[.int a t, .int b u] n } : Obj)) ∈ news) (hb : (D', ({ cls := .type "tuple", data := .seq #[.int a' t', .int b' u'] n' } : Obj)) ∈ news)
    (hu : A.units + 64 < cLine) (h : Q (.bool (decide (¬ (a = a' ∧ b = b')))) s) : wpAny (model prog w) A (compareOp .NotEq (.ref D) (.ref D')) Q E s := by
  refine ne_dataH (reads_tuple_at (N.get ha) rfl rfl (.cons (.int a t) (.cons (.int b u) .nil))) (reads_tuple_at (N.get hb) rfl rfl (.cons (.int a' t') (.cons (.int b' u') .nil))) rfl rfl hu ?_
  have e : (!PyData.eqv (.tuple [.int a, .int b]) (.tuple [.int a', .int b'])) = decide (¬ (a = a' ∧ b = b')) := by
    simp only [PyData.eqv, PyData.eqvAll, Bool.and_true]
    by_cases h1 : a = a' <;> by_cases h2 : b = b' <;> simp [h1, h2]
  rw [e]; exact h
theorem eq_tup2 {a b a' b' : Int} {t u t' u' : Tok} {n n' : Nat} (N : News h₀ L s.heap news) (ha : (D, ({ cls := .type "tuple", data := .seq #[.int a t, .int b u] n } : Obj)) ∈ news) (hb : (D', ({ cls := .type "tuple", data := .seq #[.int a' t', .int b' u'] n' } : Obj)) ∈ news)
    (hu : A.units + 64 < cLine) (h : Q (.bool (decide (a = a' ∧ b = b'))) s) : wpAny (model prog w) A (compareOp .Eq (.ref D) (.ref D')) Q E s := by
  refine eq_dataH (reads_tuple_at (N.get ha) rfl rfl (.cons (.int a t) (.cons (.int b u) .nil))) (reads_tuple_at (N.get hb) rfl rfl (.cons (.int a' t') (.cons (.int b' u') .nil))) rfl rfl hu ?_
  have e : (PyData.eqv (.tuple [.int a, .int b]) (.tuple [.int a', .int b'])) = decide (a = a' ∧ b = b') := by
    simp only [PyData.eqv, PyData.eqvAll, Bool.and_true]
    by_cases h1 : a = a' <;> by_cases h2 : b = b' <;> simp [h1, h2]
  rw [e]; exact h
theorem strs_canLayAll0 (ns : List Str) (h : ns.all PyData.strOk = true) : PyData.canLayAll0 (ns.map PyData.str) = true := by
  induction ns with
  | nil => rfl
  | cons x r ih =>
    simp only [List.all_cons, Bool.and_eq_true] at h
    simp [PyData.canLayAll0, PyData.canLay0, ih h.2, h.1]
theorem strs_depthAll : ∀ ns : List Str, PyData.depthAll (ns.map PyData.str) = 0
  | [] => rfl
  | _ :: r => by simp [PyData.depthAll, PyData.depth, strs_depthAll r]
theorem strs_shaped (ns : List Str) (h : ns.all PyData.strOk = true) : SeqAt.shaped (.list (ns.map PyData.str)) = true := by
  simp [SeqAt.shaped, PyData.canLay0, PyData.depth, strs_canLayAll0 ns h, strs_depthAll]
theorem strs_eqvAll (ns : List Str) : ∀ ms : List Str, PyData.eqvAll (ns.map PyData.str) (ms.map PyData.str) = decide (ns = ms) := by
  induction ns with
  | nil => intro ms; cases ms <;> rfl
  | cons a r ih =>
    intro ms
    cases ms with
    | nil => rfl
    | cons b t =>
      rw [List.map_cons, List.map_cons, PyData.eqvAll, PyData.eqv, ih t]
      by_cases e : a = b <;> simp [e]
theorem eq_strs {xs ys : List Value} {ns ms : List Str} (ha : s.heap.IsList D xs.toArray) (hb : s.heap.IsList D' ys.toArray) (hi : StrsAre xs ns) (hj : StrsAre ys ms) (hn : ns.all PyData.strOk = true) (hm : ms.all PyData.strOk = true) (hu : A.units + 64 < cLine) (h : Q (.bool (decide (ns = ms))) s) :
    wpAny (model prog w) A (compareOp .Eq (.ref D) (.ref D')) Q E s := by
  refine eq_dataH (reads_newData ha hi.carried) (reads_newData hb hj.carried) (strs_shaped _ hn) (strs_shaped _ hm) hu ?_
  have e : (PyData.eqv (.list (ns.map PyData.str)) (.list (ms.map PyData.str))) = decide (ns = ms) := by
    simp only [PyData.eqv, strs_eqvAll]
  rw [e]; exact h
end
end Mine
namespace Mine
open PySem.Builtin PySem.Builtin.Str PySem.StrLaws PySem.Calls

/-! ### the texts of laws 1 and 2 -/
def SG : List (List Nat) := [[97], [98], [13, 10], [10], [13], [1], [32], [64976], [233], [0], [128512]]
def sgn (n : Int) : List Nat := SG.getD (n.fmod 11).toNat []
def tapeOf (ns : List Int) : List Int := ns.take 14 ++ [(ns.length : Int)]
def rawOf (ns : List Int) : List Nat := ((tapeOf ns).map sgn).flatten
theorem map_take {l : List Int} {i : Nat} {k : Int} (f : Int → Str) (h : l[i]? = some k) : (l.take (i + 1)).map f = (l.take i).map f ++ [f k] := by
  rw [List.take_add_one, h]
  simp
end Mine
namespace Mine
open PySem.Builtin PySem.Builtin.Str PySem.StrLaws PySem.Calls

/-! ### texts glued -/
theorem strs_values : ∀ {vs : List Value} {ts : List Str}, StrsAre vs ts → ∃ l : List (Str × Tok), vs = strValues l ∧ l.map (·.1) = ts
  | _, _, .nil => ⟨[], rfl, rfl⟩
  | _, _, .cons y t r => by
    obtain ⟨l, h1, h2⟩ := strs_values r
    exact ⟨(y, t) :: l, by rw [h1]; rfl, by rw [← h2]; rfl⟩
theorem glue_S : ∀ ls : List (List Nat), PySem.Str.join (S []) (ls.map S) = S ls.flatten
  | [] => by decide +kernel
  | [a] => by
    show S a = _
    simp
  | a :: b :: r => by
    refine PySem.Str.ext' ?_
    have h := join_cons (S []) (S a) (S b :: r.map S) (List.cons_ne_nil _ _)
    have ih := congrArg (fun z => z.cps.toList) (glue_S (b :: r))
    have e : (PySem.Str.join (S []) ((a :: b :: r).map S)).cps.toList = (S (a :: b :: r).flatten).cps.toList := by
      show (PySem.Str.join (S []) (S a :: S b :: r.map S)).cps.toList = _
      rw [h]
      have ih' : (PySem.Str.join (S []) (S b :: r.map S)).cps.toList = (b :: r).flatten := ih
      rw [ih', List.flatten_cons]
      simp
    exact Array.toList_inj.mp e
section
variable {prog : Program} {w : World} {A : Around} {E : Value → Shared → Prop} {s : Shared} {D : Addr} {Q : Value → Shared → Prop}
theorem join_S {vs : List Value} {ls : List (List Nat)} {R : List Nat} (hR : ls.flatten = R) {y : Str} {t : Tok} (hy : y = S []) (hl : s.heap.IsList D vs.toArray) (hv : StrsAre vs (ls.map S)) (hn : ls.length ≤ 100) (hB : ∀ l ∈ ls, l.length ≤ 100)
    (h : ∀ t' k, Q (.str (S R) t') { s with toks := k }) : wpAny (model prog w) A (call (.builtin "str.join") [.str y t, .ref D]) Q E s := by
  subst hy hR
  obtain ⟨l, rfl, h2⟩ := strs_values hv
  refine SC.join hl h2 ?_ fun t' k => ?_
  · unfold JoinOk
    have hb : ∀ y ∈ ls.map S, y.length ≤ 100 := fun y hy => by
      obtain ⟨z, hz, rfl⟩ := List.mem_map.mp hy
      rw [S_len]; exact hB z hz
    rw [joinFits hb (by
      rw [List.length_map]
      show ls.length * 100 + ls.length * 0 ≤ _
      lia)]
    rfl
  · have e : Txt.join (S []) (ls.map S) = S ls.flatten := (glued_eq_join _ _).trans (glue_S ls)
    rw [e]; exact h t' k
end
end Mine
namespace Mine
open PySem.Builtin PySem.Builtin.Str PySem.StrLaws PySem.Calls

/-! ### the stream over its text, plainly -/
def St.cut (st : St) : Nat := st.place - st.buf.toList.length
def Inv (R : List Nat) (st : St) (p : Nat) : Prop :=
  ∃ A B C : List Nat, A ++ (B ++ C) = R ∧ C = st.buf.toList ++ R.drop st.place ∧ ¬ (A.getLast? = some 13 ∧ (B ++ C).head? = some 10) ∧ ¬ ((A ++ B).getLast? = some 13 ∧ C.head? = some 10) ∧
    st.chunk = norm B ∧ st.errs = (A ++ B).countP isInv ∧ (st.pl, st.pc) = (norm A).foldl adv (0, 0) ∧ st.off ≤ st.chunk.length ∧ p = (norm A).length + st.off ∧ st.place ≤ R.length
theorem norm_two {A B C : List Nat} (h1 : ¬ (A.getLast? = some 13 ∧ (B ++ C).head? = some 10)) : norm (A ++ B) = norm A ++ norm B := by
  refine norm_app A B fun g => h1 ⟨g.1, ?_⟩
  cases B with
  | nil => exact absurd g.2 (by simp)
  | cons b r => exact g.2
theorem norm_tail {A B C : List Nat} (h2 : ¬ ((A ++ B).getLast? = some 13 ∧ C.head? = some 10)) : norm (B ++ C) = norm B ++ norm C := by
  refine norm_app B C fun g => h2 ⟨?_, g.2⟩
  rw [List.getLast?_append, g.1]
  rfl
theorem norm_three {A B C : List Nat} (h1 : ¬ (A.getLast? = some 13 ∧ (B ++ C).head? = some 10)) (h2 : ¬ ((A ++ B).getLast? = some 13 ∧ C.head? = some 10)) : norm (A ++ (B ++ C)) = norm A ++ (norm B ++ norm C) := by
  rw [norm_app A (B ++ C) h1, norm_tail h2]
theorem norm_nil : norm [] = [] := rfl
theorem norm_eq_nil {l : List Nat} (h : norm l = []) : l = [] := by
  cases l with
  | nil => rfl
  | cons a r => exact absurd h (norm_ne (List.cons_ne_nil _ _))
theorem inv_start {R : List Nat} : Inv R ⟨[], 0, 0, 0, 0, none, 0⟩ 0 := ⟨[], [], R, rfl, rfl, by simp, by simp, rfl, rfl, rfl, Nat.le_refl _, rfl, Nat.zero_le _⟩
theorem split_app (D : List Nat) : (split D).1 ++ (split D).2.toList = D := by
  unfold split
  split
  · rename_i h
    have hne : D ≠ [] := by intro e; rw [e] at h; simp at h
    have : D.getLastD 0 = D.getLast hne := by rw [List.getLastD_eq_getLast?, List.getLast?_eq_some_getLast hne]; rfl
    show D.dropLast ++ [D.getLastD 0] = D
    rw [this, List.dropLast_concat_getLast]
  · simp
/-- no halves of pairs -/
def Plain (R : List Nat) : Prop := ∀ c ∈ R, waits c = true → c = 13
theorem part_drop (R : List Nat) (size place : Nat) : partOf R size place ++ R.drop (place + (partOf R size place).length) = R.drop place := by
  unfold partOf
  have h := List.take_append_drop size (R.drop place)
  rw [List.drop_drop] at h
  rw [List.length_take, List.length_drop]
  rcases Nat.le_total size (R.length - place) with q | q
  · rw [Nat.min_eq_left q]; exact h
  · rw [Nat.min_eq_right q]
    rw [List.drop_eq_nil_of_le (Nat.sub_le_iff_le_add'.mp (Nat.le_refl _)) (i := place + (R.length - place)), List.append_nil, List.take_of_length_le (by rw [List.length_drop]; exact q)]
theorem inv_fetch {R : List Nat} {st : St} {p size : Nat} (hi : Inv R st p) (hR : Plain R) (he : st.off = st.chunk.length) (hs : 2 ≤ size) :
    Inv R (st.fetch R size) p ∧ decide (st.data R size ≠ []) = decide (p < (norm R).length) := by
  obtain ⟨A, B, C, hABC, hC, h1, h2, hch, her, hpos, ho, hp, hpl⟩ := hi
  have hD : st.data R size ++ R.drop (st.place + (partOf R size st.place).length) = C := by
    rw [hC]
    unfold St.data
    rw [List.append_assoc, part_drop]
  have hlen : (partOf R size st.place).length = min size (R.length - st.place) := partOf_len _ _ _
  have hN : norm R = norm A ++ (norm B ++ norm C) := by rw [← hABC]; exact norm_three h1 h2
  have hDC : st.data R size = [] ↔ C = [] := by
    constructor
    · intro e
      have e2 : partOf R size st.place = [] := (List.append_eq_nil_iff.mp e).2
      rw [e2, List.length_nil] at hlen
      rw [e, List.nil_append] at hD
      rw [← hD]
      exact List.drop_eq_nil_of_le (by lia)
    · intro e
      rw [e] at hD
      exact (List.append_eq_nil_iff.mp hD).1
  have hmem : ∀ c ∈ st.data R size, c ∈ R := fun c hc => by
    rw [← hABC]
    refine List.mem_append.mpr (.inr (List.mem_append.mpr (.inr ?_)))
    rw [← hD]
    exact List.mem_append.mpr (.inl hc)
  refine ⟨⟨A ++ B, (split (st.data R size)).1, (split (st.data R size)).2.toList ++ R.drop (st.place + (partOf R size st.place).length), ?_, rfl, ?_, ?_, rfl, ?_, ?_, Nat.zero_le _, ?_, ?_⟩, ?_⟩
  · rw [← List.append_assoc (split _).1, split_app, hD, List.append_assoc, hABC]
  · rw [← List.append_assoc (split _).1, split_app, hD]; exact h2
  · rintro ⟨g1, g2⟩
    by_cases hl : (st.data R size).length ≤ 1
    · have e : R.drop (st.place + (partOf R size st.place).length) = [] := by
        refine List.drop_eq_nil_of_le ?_
        have : (partOf R size st.place).length ≤ (st.data R size).length := by unfold St.data; rw [List.length_append]; lia
        lia
      rw [split_no (by lia), e] at g2
      simp at g2
    · by_cases hw : waits ((st.data R size).getLastD 0) = true
      · have hsp : split (st.data R size) = ((st.data R size).dropLast, some ((st.data R size).getLastD 0)) := by
          unfold split
          rw [if_pos ⟨by lia, hw⟩]
        rw [hsp] at g2
        have hne : st.data R size ≠ [] := by intro e; rw [e] at hl; simp at hl
        have hm : (st.data R size).getLastD 0 ∈ R := hmem _ (by
          rw [List.getLastD_eq_getLast?, List.getLast?_eq_some_getLast hne]
          exact List.getLast_mem hne)
        have h13 := hR _ hm hw
        rw [h13] at g2
        simp at g2
      · have hsp : split (st.data R size) = (st.data R size, none) := by
          unfold split
          rw [if_neg (fun q => hw q.2)]
        rw [hsp] at g1
        have hne : st.data R size ≠ [] := by intro e; rw [e] at hl; simp at hl
        have g3 : (st.data R size).getLast? = some 13 := by
          rw [List.getLast?_append, List.getLast?_eq_some_getLast hne] at g1
          rw [List.getLast?_eq_some_getLast hne]
          exact g1
        refine hw ?_
        rw [List.getLastD_eq_getLast?, g3]
        rfl
  · show st.errs + _ = _
    rw [her, List.countP_append, List.countP_append, List.countP_append]
  · show st.pos st.chunk.length = _
    unfold St.pos
    rw [List.take_length, hpos, hch, ← List.foldl_append, norm_two h1]
  · show p = _ + 0
    rw [norm_two h1, List.length_append, hp, he, hch]
    lia
  · show st.place + _ ≤ _
    rw [hlen]
    exact Nat.le_trans (Nat.add_le_add_left (Nat.min_le_right _ _) _) (Nat.le_of_eq (Nat.add_sub_cancel' hpl))
  · rw [Bool.eq_iff_iff]
    simp only [decide_eq_true_eq]
    rw [hN, List.length_append, List.length_append, hp, he, hch]
    constructor
    · intro h
      have : norm C ≠ [] := norm_ne fun e => h (hDC.mpr e)
      have := List.length_pos_iff.mpr this
      lia
    · intro h e
      rw [hDC.mp e, norm_nil] at h
      simp at h
end Mine
namespace Mine
open PySem.Builtin PySem.Builtin.Str PySem.StrLaws PySem.Calls

theorem inv_le {R : List Nat} {st : St} {p : Nat} (hi : Inv R st p) : p ≤ (norm R).length := by
  obtain ⟨A, B, C, hABC, hC, h1, h2, hch, her, hpos, ho, hp, hpl⟩ := hi
  rw [← hABC, norm_three h1 h2, List.length_append, List.length_append, hp]
  rw [hch] at ho
  lia
theorem adv_shift : ∀ (l : List Nat) (p : Nat × Nat), l.foldl adv (p.1 + 1, p.2) = ((l.foldl adv p).1 + 1, (l.foldl adv p).2)
  | [], p => rfl
  | c :: r, p => by
    rw [List.foldl_cons, List.foldl_cons]
    have : adv (p.1 + 1, p.2) c = ((adv p c).1 + 1, (adv p c).2) := by unfold adv; split <;> rfl
    rw [this, adv_shift r (adv p c)]
theorem inv_ok {R : List Nat} {st : St} {p : Nat} (hi : Inv R st p) (hR : R.length ≤ 1000) : Ok R st := by
  obtain ⟨A, B, C, hABC, hC, h1, h2, hch, her, hpos, ho, hp, hpl⟩ := hi
  have hl := congrArg List.length hABC
  rw [List.length_append, List.length_append] at hl
  refine ⟨hR, by lia, ?_, ?_, ho⟩
  · rw [hch]
    exact Nat.le_trans (norm_len B) (by lia)
  · rw [her]
    refine Nat.le_trans List.countP_le_length ?_
    rw [List.length_append]
    lia
theorem inv_cut {R : List Nat} {st : St} {p : Nat} (hi : Inv R st p) : ∃ A B C : List Nat, A ++ (B ++ C) = R ∧ C = st.buf.toList ++ R.drop st.place ∧ (A ++ B).length = st.cut ∧ R.take st.cut = A ++ B ∧ norm (A ++ B) = norm A ++ norm B ∧ st.chunk = norm B ∧ st.errs = (A ++ B).countP isInv ∧ p = (norm A).length + st.off ∧ st.buf.toList.length ≤ st.place := by
  obtain ⟨A, B, C, hABC, hC, h1, h2, hch, her, hpos, ho, hp, hpl⟩ := hi
  have hl := congrArg List.length hABC
  have hl2 := congrArg List.length hC
  rw [List.length_append, List.length_append] at hl
  rw [List.length_append, List.length_drop] at hl2
  have hq : A.length + B.length + st.buf.toList.length = st.place := Nat.add_right_cancel (m := R.length - st.place) (by rw [Nat.add_assoc, ← hl2, Nat.add_assoc, hl, Nat.add_sub_cancel' hpl])
  have hlen : (A ++ B).length = st.cut := by
    unfold St.cut
    rw [List.length_append]
    exact Nat.eq_sub_of_add_eq hq
  refine ⟨A, B, C, hABC, hC, hlen, ?_, norm_two h1, hch, her, hp, hq ▸ Nat.le_add_left _ _⟩
  rw [← hlen, ← hABC, ← List.append_assoc, List.take_left']
  rfl
theorem inv_until {R : List Nat} {st : St} {p : Nat} (hi : Inv R st p) : (norm (R.take st.cut)).length + st.off = p + st.chunk.length := by
  obtain ⟨A, B, C, _, _, _, ht, hn, hch, her, hp, _⟩ := inv_cut hi
  rw [ht, hn, List.length_append, hp, hch]
  lia
theorem inv_end {R : List Nat} {st : St} {p : Nat} (hi : Inv R st p) (he : ¬ p < (norm R).length) : st.errs = R.countP isInv ∧ st.off = st.chunk.length := by
  obtain ⟨A, B, C, hABC, hC, h1, h2, hch, her, hpos, ho, hp, hpl⟩ := hi
  rw [← hABC, norm_three h1 h2, List.length_append, List.length_append, hp] at he
  rw [hch] at ho
  have : norm C = [] := List.eq_nil_of_length_eq_zero (by lia)
  have hc := norm_eq_nil this
  refine ⟨?_, ?_⟩
  · rw [her, ← hABC, hc, List.append_nil]
  · rw [hch]; lia
theorem inv_data {R : List Nat} {st : St} {p : Nat} (hi : Inv R st p) (size : Nat) : ∃ P : List Nat, P.length = st.cut ∧ P ++ (st.data R size ++ R.drop (st.place + (partOf R size st.place).length)) = R := by
  obtain ⟨A, B, C, hABC, hC, hl, _⟩ := inv_cut hi
  refine ⟨A ++ B, hl, ?_⟩
  rw [List.append_assoc, ← hABC]
  congr 2
  rw [hABC, hC]
  unfold St.data
  rw [List.append_assoc, part_drop]
theorem inv_place {R : List Nat} {st : St} {p : Nat} (hi : Inv R st p) (size : Nat) : (st.fetch R size).place = min (st.place + size) R.length := by
  obtain ⟨A, B, C, hABC, hC, h1, h2, hch, her, hpos, ho, hp, hpl⟩ := hi
  show st.place + (partOf R size st.place).length = _
  rw [partOf_len, ← Nat.add_min_add_left, Nat.add_sub_cancel' hpl]
theorem inv_cutR {R : List Nat} {st : St} {p size : Nat} (hi : Inv R st p) (hR : Plain R) : cutR R st.cut (st.fetch R size).place = (st.fetch R size).cut := by
  obtain ⟨P, hP, hPR⟩ := inv_data hi size
  obtain ⟨A, B, C, hABC, hC, hl, _, _, _, _, _, hbuf⟩ := inv_cut hi
  have hT : (st.fetch R size).place = st.cut + (st.data R size).length := by
    show st.place + (partOf R size st.place).length = _
    unfold St.data St.cut
    rw [List.length_append, ← Nat.add_assoc, Nat.sub_add_cancel hbuf]
  have hlast : ∀ h : st.data R size ≠ [], R.getD ((st.fetch R size).place - 1) 0 = (st.data R size).getLastD 0 := by
    intro h
    have hpos := List.length_pos_iff.mpr h
    rw [hT, ← hP]
    have e : R.getD (P.length + (st.data R size).length - 1) 0 = (st.data R size).getD ((st.data R size).length - 1) 0 := by
      have e1 : R.getD (P.length + (st.data R size).length - 1) 0 = (P ++ (st.data R size ++ R.drop (st.place + (partOf R size st.place).length))).getD (P.length + (st.data R size).length - 1) 0 := by rw [hPR]
      rw [e1, List.getD_eq_getElem?_getD, List.getD_eq_getElem?_getD, List.getElem?_append_right (Nat.le_sub_one_of_lt (Nat.lt_add_of_pos_right hpos)), Nat.add_sub_assoc hpos, Nat.add_sub_cancel_left, List.getElem?_append_left (Nat.sub_lt hpos Nat.one_pos)]
    rw [e, List.getLastD_eq_getLast?, List.getLast?_eq_getElem?, List.getD_eq_getElem?_getD]
  have hb : (st.fetch R size).buf = (split (st.data R size)).2 := rfl
  unfold St.cut cutR
  rw [hb]
  by_cases hlen : 1 < (st.data R size).length
  · have hne : st.data R size ≠ [] := by intro e; rw [e] at hlen; simp at hlen
    by_cases hw : waits ((st.data R size).getLastD 0) = true
    · have hsp : split (st.data R size) = ((st.data R size).dropLast, some ((st.data R size).getLastD 0)) := by unfold split; rw [if_pos ⟨hlen, hw⟩]
      have hm : (st.data R size).getLastD 0 ∈ R := by
        have h1 : (st.data R size).getLastD 0 ∈ st.data R size := by
          rw [List.getLastD_eq_getLast?, List.getLast?_eq_some_getLast hne]
          exact List.getLast_mem hne
        have h2 : (st.data R size).getLastD 0 ∈ P ++ (st.data R size ++ R.drop (st.place + (partOf R size st.place).length)) := List.mem_append.mpr (.inr (List.mem_append.mpr (.inl h1)))
        rw [hPR] at h2
        exact h2
      rw [if_pos ⟨by rw [hlast hne]; exact hR _ hm hw, by rw [hT]; exact Nat.lt_sub_of_add_lt (Nat.add_lt_add_left hlen _)⟩, hsp]
      rfl
    · have hsp : split (st.data R size) = (st.data R size, none) := by unfold split; rw [if_neg (fun q => hw q.2)]
      rw [if_neg (fun q => hw (by rw [← hlast hne, q.1]; rfl)), hsp]
      rfl
  · have hsp : split (st.data R size) = (st.data R size, none) := by unfold split; rw [if_neg (fun q => hlen q.1)]
    rw [if_neg (fun q => hlen (by have := q.2; rw [hT] at this; exact Nat.lt_of_add_lt_add_left (n := st.cut) (Nat.add_lt_of_lt_sub this))), hsp]
    rfl
theorem inv_off {R : List Nat} {ck : List Nat} {er pl pc : Nat} {bf : Option Nat} {pla p : Nat} (hi : Inv R ⟨ck, 0, er, pl, pc, bf, pla⟩ p) {j : Nat} (hj : j ≤ ck.length) : Inv R ⟨ck, j, er, pl, pc, bf, pla⟩ (p + j) := by
  obtain ⟨A, B, C, hABC, hC, h1, h2, hch, her, hpos, ho', hp, hpl⟩ := hi
  exact ⟨A, B, C, hABC, hC, h1, h2, hch, her, hpos, hj, by dsimp only at hp ⊢; lia, hpl⟩
end Mine
namespace Mine
open PySem.Builtin PySem.Builtin.Str PySem.StrLaws PySem.Calls

/-! ### the signs of laws 1 and 2 -/
def badS (c : Nat) : Bool := c == 1 || c == 64976
structure Raw (R : List Nat) : Prop where
  len : R.length ≤ 1000
  ne : R ≠ []
  plain : Plain R
  code : ∀ c ∈ R, c < 1114112
  bad : ∀ c ∈ R, isInv c = badS c
theorem bad_count {R : List Nat} (h : ∀ c ∈ R, isInv c = badS c) : R.countP isInv = R.countP badS := List.countP_congr fun c hc => by rw [h c hc]
/-! ### whiles by an invariant that may speak of the frame at its start -/
section
variable {prog : Program} {w : World} {A : Around} {E : Value → Shared → Prop} {Q : Flow → Shared → Prop} {s : Shared} {env : Env} {h₀ : Heap} {L : Addr}
theorem while_m {test : Expr} {body : List Stmt} {pos : Pos} {m₀ : PySem.Str → Option Value} {news : List (Addr × Obj)} (J : (PySem.Str → Option Value) → Nat → (PySem.Str → Option Value) → List (Addr × Obj) → Prop) (n₀ : Nat)
    (F : Fr h₀ L s.heap m₀) (N : News h₀ L s.heap news) (hJ : J m₀ n₀ m₀ news)
    (turn : ∀ n m₁ news₁ h₁ tk₁, J m₀ n m₁ news₁ → Fr h₀ L h₁ m₁ → News h₀ L h₁ news₁ →
      wpAny (model prog w) A (isTrue test env (eval test env)) (fun b s₂ =>
        if b = true then wpAny (model prog w) A (execs body env) (WhileStep2 h₀ L s (J m₀) Q n) E s₂ else Q .next s₂) E { s with heap := h₁, toks := tk₁ })
    (hE : PassesOwn (model prog w) A env E := by first | assumption | passes_own) :
    wpAny (model prog w) A (exec (.While test body [] pos) env) Q E s := While_inv2 (J m₀) F N hJ (fun n m₁ news₁ h₁ tk₁ F₁ N₁ hj => turn n m₁ news₁ h₁ tk₁ hj F₁ N₁) hE
theorem wstep_end {J : Nat → (PySem.Str → Option Value) → List (Addr × Obj) → Prop} {n n' : Nat} {h' : Heap} {tk : Nat} {m₂ : PySem.Str → Option Value} {news₂ : List (Addr × Obj)} (F : Fr h₀ L h' m₂) (N : News h₀ L h' news₂) (hn : n' < n) (hJ : J n' m₂ news₂) :
    WhileStep2 h₀ L s J Q n .next { s with heap := h', toks := tk } := ⟨h', tk, m₂, news₂, n', rfl, F, N, hn, hJ⟩
end
theorem int_eq {a b : Int} {t : Tok} (h : a = b) : some (Value.int a t) = some (Value.int b t) := by rw [h]
theorem set1 {m₀ m' : PySem.Str → Option Value} {x : PySem.Str} {a : Int} (hx : ∃ t, m' x = some (.int a t)) (ho : ∀ z, z ≠ x → m' z = m₀ z) : ∃ t : Tok, m' = fun z => if z = x then some (.int a t) else m₀ z := by
  obtain ⟨t, hx⟩ := hx
  exact ⟨t, funext fun z => lit1 hx fun h => ho z h⟩

/-! ### lists of one text over and over -/
theorem rep_ok {v : PySem.Str} (h : PyData.strOk v = true) (n : Nat) : (List.replicate n v).all PyData.strOk = true := by
  rw [List.all_eq_true]
  intro x hx
  rw [(List.mem_replicate.mp hx).2, h]
theorem bad_any (c : Nat) : ([S [1], S [64976]].any fun x => x == S [c]) = badS c := by
  rw [Bool.eq_iff_iff]
  rw [List.any_cons, List.any_cons, List.any_nil, Bool.or_false, Bool.or_eq_true, beq_iff_eq, beq_iff_eq, S_inj, S_inj]
  unfold badS
  rw [Bool.or_eq_true, beq_iff_eq, beq_iff_eq, List.cons.injEq, List.cons.injEq]
  constructor
  · rintro (h | h)
    · exact .inl h.1.symm
    · exact .inr h.1.symm
  · rintro (h | h)
    · exact .inl ⟨h.symm, rfl⟩
    · exact .inr ⟨h.symm, rfl⟩
theorem rep_yes {l : List Nat} {i c : Nat} {ys : List Value} {v : PySem.Str} {t : Tok} (h : l[i]? = some c) (hb : ([S [1], S [64976]].any fun x => x == S [c]) = true) (hS : StrsAre ys (List.replicate ((l.take i).countP badS) v)) :
    StrsAre (ys ++ [.str v t]) (List.replicate ((l.take (i + 1)).countP badS) v) := by
  have e : (l.take (i + 1)).countP badS = (l.take i).countP badS + 1 := by
    rw [List.take_add_one, h, List.countP_append]
    rw [bad_any] at hb
    simp [hb]
  rw [e, List.replicate_succ']
  exact kct_snoc hS
theorem rep_no {l : List Nat} {i c : Nat} {ys : List Value} {v : PySem.Str} (h : l[i]? = some c) (hb : ([S [1], S [64976]].any fun x => x == S [c]) = false) (hS : StrsAre ys (List.replicate ((l.take i).countP badS) v)) :
    StrsAre ys (List.replicate ((l.take (i + 1)).countP badS) v) := by
  have e : (l.take (i + 1)).countP badS = (l.take i).countP badS := by
    rw [List.take_add_one, h, List.countP_append]
    rw [bad_any] at hb
    simp [hb]
  rw [e]
  exact hS
end Mine
namespace Mine
open PySem.Builtin PySem.Builtin.Str PySem.StrLaws PySem.Calls

/-! ### the first items of a list of ints -/
section
variable {prog : Program} {w : World} {A : Around} {E : Value → Shared → Prop} {s : Shared} {h₀ : Heap} {L l : Addr} {m : PySem.Str → Option Value} {news : List (Addr × Obj)} {value slice : PySem.Expr} {vs : List Value} {ns : List Int} {Q : Value → Shared → Prop}
end
end Mine
namespace Mine
open PySem.Builtin PySem.Builtin.Str PySem.StrLaws PySem.Calls

/-! ### a run of signs, plainly -/
def runL (P : Nat → Bool) (b : Bool) (l : List Nat) : List Nat := l.takeWhile fun c => P c == b
theorem runL_le (P : Nat → Bool) (b : Bool) : ∀ l : List Nat, (runL P b l).length ≤ l.length
  | [] => Nat.le_refl _
  | c :: r => by
    unfold runL
    rw [List.takeWhile_cons]
    split
    · have := runL_le P b r
      unfold runL at this
      simp only [List.length_cons]; lia
    · simp
theorem runL_yes {P : Nat → Bool} {b : Bool} : ∀ {l : List Nat} {j : Nat}, j < (runL P b l).length → P (l.getD j 0) = b
  | [], j, h => by simp [runL] at h
  | c :: r, j, h => by
    unfold runL at h
    rw [List.takeWhile_cons] at h
    split at h
    · rename_i hc
      cases j with
      | zero => simpa using hc
      | succ j =>
        have := runL_yes (l := r) (j := j) (by unfold runL; simpa using h)
        simpa using this
    · simp at h
theorem runL_no {P : Nat → Bool} {b : Bool} : ∀ {l : List Nat}, (runL P b l).length < l.length → P (l.getD (runL P b l).length 0) = !b
  | [], h => by simp at h
  | c :: r, h => by
    unfold runL at h ⊢
    rw [List.takeWhile_cons] at h ⊢
    split
    · rename_i hc
      rw [if_pos hc] at h
      have := runL_no (P := P) (b := b) (l := r) (by unfold runL; simpa using h)
      simpa [runL] using this
    · rename_i hc
      cases hp : P c <;> cases b <;> simp_all
theorem runL_take (P : Nat → Bool) (b : Bool) : ∀ l : List Nat, runL P b l = l.take (runL P b l).length
  | [] => rfl
  | c :: r => by
    unfold runL
    rw [List.takeWhile_cons]
    split
    · have := runL_take P b r
      unfold runL at this
      rw [List.length_cons, List.take_succ_cons, ← this]
    · rfl
theorem runL_all {P : Nat → Bool} {b : Bool} {l : List Nat} (h : (runL P b l).length = l.length) : runL P b l = l := by
  rw [runL_take, h, List.take_length]
theorem runL_app {P : Nat → Bool} {b : Bool} {l r : List Nat} (h : (runL P b l).length = l.length) : runL P b (l ++ r) = l ++ runL P b r := by
  have ha := runL_all h
  clear h
  induction l with
  | nil => rfl
  | cons c t ih =>
    unfold runL at ha ⊢
    rw [List.takeWhile_cons] at ha
    split at ha
    · rename_i hc
      rw [List.cons_append, List.takeWhile_cons, if_pos hc, List.cons_append]
      have := List.cons.inj ha
      congr 1
      exact ih this.2
    · cases ha
theorem runL_stop {P : Nat → Bool} {b : Bool} : ∀ {l r : List Nat}, (runL P b l).length < l.length → runL P b (l ++ r) = runL P b l
  | [], _, h => by simp at h
  | c :: t, r, h => by
    unfold runL at h ⊢
    rw [List.takeWhile_cons] at h
    rw [List.cons_append, List.takeWhile_cons, List.takeWhile_cons]
    split
    · rename_i hc
      rw [if_pos hc] at h
      congr 1
      exact runL_stop (by unfold runL; simpa using h)
    · rfl

/-- what charsUntil asks of the stream -/
structure UOk (R : List Nat) (st : St) : Prop where
  hR : R.length ≤ 1000
  hp : st.place ≤ 1000
  hc : st.chunk.length ≤ 100
  he : st.errs ≤ 100000
  ho : st.off ≤ st.chunk.length
  hcd : ∀ c ∈ st.chunk, c < 1114112
/-- charsUntil: what comes, and the stream behind it; the index counts the pieces fetched -/
inductive Until (R : List Nat) (P : Nat → Bool) (b : Bool) : Nat → St → List Nat → St → Prop
  | stop {n : Nat} {st : St} (ok : UOk R st) (h : st.off + (runL P b (st.chunk.drop st.off)).length < st.chunk.length) : Until R P b n st (runL P b (st.chunk.drop st.off)) { st with off := st.off + (runL P b (st.chunk.drop st.off)).length }
  | last {n : Nat} {st : St} (ok : UOk R st) (h : st.off + (runL P b (st.chunk.drop st.off)).length = st.chunk.length) (hd : st.data R 10240 = []) : Until R P b n st (st.chunk.drop st.off) (st.fetch R 10240)
  | more {n : Nat} {st st' : St} {l : List Nat} (ok : UOk R st) (h : st.off + (runL P b (st.chunk.drop st.off)).length = st.chunk.length) (hd : st.data R 10240 ≠ []) (hn : Until R P b n (st.fetch R 10240) l st') : Until R P b (n + 1) st (st.chunk.drop st.off ++ l) st'
theorem getD_drop (l : List Nat) (a j : Nat) : (l.drop a).getD j 0 = l.getD (a + j) 0 := by
  rw [List.getD_eq_getElem?_getD, List.getD_eq_getElem?_getD, List.getElem?_drop]
end Mine
namespace Mine
open PySem.Builtin PySem.Builtin.Str PySem.StrLaws PySem.Calls

/-! ### the stream with signs put back; g: its place is right -/
def InvG (g : Prop) (R : List Nat) (st : St) (p : Nat) : Prop :=
  ∃ (st0 : St) (p0 j : Nat), Inv R st0 p0 ∧ st0.off = st0.chunk.length ∧ st0.buf = st.buf ∧ st0.place = st.place ∧ st0.errs = st.errs ∧
    st.chunk = ((norm R).take p0).drop j ∧ j ≤ p0 ∧ p = j + st.off ∧ st.off ≤ st.chunk.length ∧ (g → (st.pl, st.pc) = ((norm R).take j).foldl adv (0, 0))
theorem invG_start {g : Prop} {R : List Nat} : InvG g R ⟨[], 0, 0, 0, 0, none, 0⟩ 0 :=
  ⟨⟨[], 0, 0, 0, 0, none, 0⟩, 0, 0, inv_start, rfl, rfl, rfl, rfl, rfl, Nat.le_refl _, rfl, Nat.le_refl _, fun _ => rfl⟩
theorem inv_chunk {R : List Nat} {st : St} {p : Nat} (hi : Inv R st p) (h0 : st.off = 0) : st.chunk = ((norm R).take (p + st.chunk.length)).drop p := by
  obtain ⟨A, B, C, hABC, hC, h1, h2, hch, her, hpos, ho, hp, hpl⟩ := hi
  rw [← hABC, norm_three h1 h2, hp, h0, hch, Nat.add_zero, List.take_length_add_append, List.drop_left', List.take_left']
  · rfl
  · rfl
theorem chunk_len {R : List Nat} {ck : List Nat} {p0 j : Nat} (hck : ck = ((norm R).take p0).drop j) (hle : p0 ≤ (norm R).length) : ck.length = p0 - j := by
  rw [hck, List.length_drop, List.length_take, Nat.min_eq_left hle]
theorem chunk_end {R : List Nat} {ck : List Nat} {p0 j : Nat} (hck : ck = ((norm R).take p0).drop j) (hle : p0 ≤ (norm R).length) (hj : j ≤ p0) : p0 = j + ck.length := by
  rw [chunk_len hck hle, Nat.add_sub_cancel' hj]
theorem le_end {p p0 j o c : Nat} (hp : p = j + o) (ho : o ≤ c) (h : p0 = j + c) : p ≤ p0 := by
  rw [hp, h]; exact Nat.add_le_add_left ho j
theorem run_eq {a b c : Nat} (ho : a ≤ c) (h : b ≤ c - a) (hs : ¬ a + b < c) : a + b = c := Nat.le_antisymm (by have := Nat.add_le_add_left h a; rwa [Nat.add_sub_cancel' ho] at this) (Nat.not_lt.mp hs)
theorem invG_fetch {g : Prop} {R : List Nat} {st : St} {p size : Nat} (hi : InvG g R st p) (hR : Plain R) (he : st.off = st.chunk.length) (hs : 2 ≤ size) :
    InvG g R (st.fetch R size) p ∧ decide (st.data R size ≠ []) = decide (p < (norm R).length) := by
  obtain ⟨st0, p0, j, h0, h1, hb, hpl, her, hck, hj, hp, ho, hg⟩ := hi
  have hle := inv_le h0
  have hcl := chunk_len hck hle
  obtain rfl : p = p0 := by rw [hp, he]; exact (chunk_end hck hle hj).symm
  obtain ⟨f1, f2⟩ := inv_fetch (size := size) h0 hR h1 hs
  have hd : st.data R size = st0.data R size := by unfold St.data; rw [hb, hpl]
  have hq := inv_chunk f1 rfl
  have e1 : (st.fetch R size).chunk = (st0.fetch R size).chunk := by show norm _ = norm _; rw [hd]
  have hf := f1
  generalize hst : st0.fetch R size = stf at *
  obtain ⟨ckf, off, erf, plf, pcf, bff, plaf⟩ := stf
  obtain rfl : off = 0 := by have : (st0.fetch R size).off = 0 := rfl; rw [hst] at this; exact this
  have g1 := inv_off hf (Nat.le_refl ckf.length)
  rw [hd]
  refine ⟨⟨_, _, p, g1, rfl, ?_, ?_, ?_, ?_, Nat.le_add_right _ _, rfl, Nat.zero_le _, ?_⟩, f2⟩
  · show bff = _
    have : (st0.fetch R size).buf = bff := by rw [hst]
    rw [← this]
    show (split _).2 = (split _).2
    rw [hd]
  · show plaf = _
    have : (st0.fetch R size).place = plaf := by rw [hst]
    rw [← this]
    show st0.place + _ = st.place + _
    rw [hpl]
  · show erf = _
    have : (st0.fetch R size).errs = erf := by rw [hst]
    rw [← this]
    show st0.errs + _ = st.errs + _
    rw [hd, her]
  · rw [e1]; exact hq
  · intro hgg
    show st.pos st.chunk.length = _
    unfold St.pos
    rw [List.take_length, hg hgg, hck, ← List.foldl_append]
    congr 1
    have := List.take_append_drop j ((norm R).take p)
    rw [List.take_take, Nat.min_eq_left hj] at this
    exact this
theorem invG_p0 {g : Prop} {R : List Nat} {st : St} {p : Nat} (hi : InvG g R st p) : ∃ p0 j, st.chunk = ((norm R).take p0).drop j ∧ j ≤ p0 ∧ p0 ≤ (norm R).length ∧ p = j + st.off ∧ p0 = j + st.chunk.length ∧ st.off ≤ st.chunk.length := by
  obtain ⟨st0, p0, j, h0, h1, hb, hpl, her, hck, hj, hp, ho, hg⟩ := hi
  have hle := inv_le h0
  have hcl := chunk_len hck hle
  exact ⟨p0, j, hck, hj, hle, hp, chunk_end hck hle hj, ho⟩
theorem invG_le {g : Prop} {R : List Nat} {st : St} {p : Nat} (hi : InvG g R st p) : p ≤ (norm R).length := by
  obtain ⟨p0, j, _, _, hle, hp, hcl, ho⟩ := invG_p0 hi
  exact Nat.le_trans (le_end hp ho hcl) hle
theorem invG_off {g : Prop} {R : List Nat} {st : St} {p : Nat} (hi : InvG g R st p) (o : Nat) (ho : o ≤ st.chunk.length) : InvG g R { st with off := o } (p - st.off + o) := by
  obtain ⟨st0, p0, j, h0, h1, hb, hpl, her, hck, hj, hp, _, hg⟩ := hi
  exact ⟨st0, p0, j, h0, h1, hb, hpl, her, hck, hj, by dsimp only; rw [hp, Nat.add_sub_cancel], ho, hg⟩
theorem invG_pos {R : List Nat} {st : St} {p : Nat} (hi : InvG True R st p) : st.pos st.off = ((norm R).take p).foldl adv (0, 0) := by
  obtain ⟨st0, p0, j, h0, h1, hb, hpl, her, hck, hj, hp, ho, hg⟩ := hi
  have hle := inv_le h0
  have hcl := chunk_len hck hle
  unfold St.pos
  rw [hg trivial, hck, ← List.foldl_append]
  congr 1
  have e := List.take_append_drop j ((norm R).take p)
  rw [List.take_take, Nat.min_eq_left (by rw [hp]; exact Nat.le_add_right _ _)] at e
  rw [← e]
  congr 1
  rw [List.drop_take, List.drop_take, List.take_take]
  congr 1
  rw [hp, Nat.add_sub_cancel_left, ← hcl, Nat.min_eq_left ho]
theorem invG_spot {R : List Nat} {st : St} {p : Nat} (hi : InvG True R st p) : ((norm R).take p).foldl adv (1, 0) = ((st.pos st.off).1 + 1, (st.pos st.off).2) := by
  rw [invG_pos hi]
  exact adv_shift _ (0, 0)
theorem invG_st0 {g : Prop} {R : List Nat} {st : St} {p : Nat} (hi : InvG g R st p) : ∃ st0 p0, Inv R st0 p0 ∧ st0.off = st0.chunk.length ∧ st0.buf = st.buf ∧ st0.place = st.place ∧ st0.errs = st.errs ∧ p0 + st.off = p + st.chunk.length := by
  obtain ⟨st0, p0, j, h0, h1, hb, hpl, her, hck, hj, hp, ho, hg⟩ := hi
  have hle := inv_le h0
  have hcl := chunk_len hck hle
  exact ⟨st0, p0, h0, h1, hb, hpl, her, by rw [hp, chunk_end hck hle hj]; exact Nat.add_right_comm _ _ _⟩
theorem invG_ok {g : Prop} {R : List Nat} {st : St} {p : Nat} (hi : InvG g R st p) (hR : R.length ≤ 1000) : Ok R st := by
  obtain ⟨st0, p0, h0, h1, hb, hpl, her, hp⟩ := invG_st0 hi
  obtain ⟨q0, j, hck, hj, hle, hp, hcl, ho⟩ := invG_p0 hi
  obtain ⟨o1, o2, o3, o4, o5⟩ := inv_ok h0 hR
  have := norm_len R
  exact ⟨hR, hpl ▸ o2, le3 (Nat.le_trans (by rw [hcl]; exact Nat.le_add_left _ _ : st.chunk.length ≤ q0) (Nat.le_trans hle (Nat.le_trans this hR))) rfl, her ▸ o4, ho⟩
theorem norm_in : ∀ {l : List Nat} {c : Nat}, c ∈ norm l → c = 10 ∨ c ∈ l
  | l, c, h => by
    unfold norm crs at h
    obtain ⟨d, hd, rfl⟩ := List.mem_map.mp h
    have : ∀ (l : List Nat) (d : Nat), d ∈ crlf l → d = 10 ∨ d ∈ l := by
      intro l
      induction l using crlf.induct with
      | case1 => intro d hd; exact .inr hd
      | case2 c => intro d hd; exact .inr hd
      | case3 c e t h ih =>
        intro d hd
        rw [crlf, if_pos h] at hd
        rcases List.mem_cons.mp hd with rfl | hd
        · exact .inl rfl
        · rcases ih d hd with h | h
          · exact .inl h
          · exact .inr (.tail _ (.tail _ h))
      | case4 c e t h ih =>
        intro d hd
        rw [crlf, if_neg h] at hd
        rcases List.mem_cons.mp hd with rfl | hd
        · exact .inr (.head _)
        · rcases ih d hd with h | h
          · exact .inl h
          · exact .inr (.tail _ h)
    split
    · exact .inl rfl
    · exact this l d hd
theorem invG_uok {g : Prop} {R : List Nat} {st : St} {p : Nat} (hi : InvG g R st p) (hR : R.length ≤ 60) (hc : ∀ c ∈ R, c < 1114112) : UOk R st := by
  obtain ⟨q0, j, hck, hj, hle, hp, hcl, ho⟩ := invG_p0 hi
  obtain ⟨o1, o2, o3, o4, o5⟩ := invG_ok hi (le3 hR rfl)
  have := norm_len R
  refine ⟨o1, o2, le3 (Nat.le_trans (by rw [hcl]; exact Nat.le_add_left _ _ : st.chunk.length ≤ q0) (Nat.le_trans hle (Nat.le_trans this hR))) rfl, o4, ho, fun c h => ?_⟩
  rw [hck] at h
  rcases norm_in (List.mem_of_mem_take (List.mem_of_mem_drop h)) with h | h
  · rw [h]; decide
  · exact hc c h
theorem invG_len {g : Prop} {R : List Nat} {st : St} {p : Nat} (hi : InvG g R st p) : (norm (R.take st.cut)).length + st.off = p + st.chunk.length := by
  obtain ⟨st0, p0, h0, h1, hb, hpl, her, hp⟩ := invG_st0 hi
  have h := inv_until h0
  have e : st.cut = st0.cut := by unfold St.cut; rw [hb, hpl]
  rw [e, Nat.add_right_cancel (h.trans (by rw [h1]))]
  exact hp
theorem invG_end {g : Prop} {R : List Nat} {st : St} {p : Nat} (hi : InvG g R st p) (he : ¬ p < (norm R).length) : st.errs = R.countP isInv ∧ st.off = st.chunk.length := by
  obtain ⟨st0, p0, h0, h1, hb, hpl, her, hp⟩ := invG_st0 hi
  obtain ⟨q0, j, hck, hj, hle, hp2, hcl, ho⟩ := invG_p0 hi
  obtain ⟨h2, h3⟩ := inv_end h0 (by lia)
  have := inv_le h0
  exact ⟨by rw [← her, h2], by lia⟩
theorem invG_place {g : Prop} {R : List Nat} {st : St} {p : Nat} (hi : InvG g R st p) (size : Nat) : (st.fetch R size).place = min (st.place + size) R.length := by
  obtain ⟨st0, p0, h0, h1, hb, hpl, her, hp⟩ := invG_st0 hi
  have h := inv_place h0 size
  rw [← hpl, ← h]
  show st.place + _ = st0.place + _
  rw [hpl]
theorem invG_ple {g : Prop} {R : List Nat} {st : St} {p : Nat} (hi : InvG g R st p) : st.place ≤ R.length := by
  obtain ⟨st0, p0, h0, h1, hb, hpl, her, hp⟩ := invG_st0 hi
  obtain ⟨A, B, C, _, _, _, _, _, _, _, _, _, q⟩ := h0
  exact hpl ▸ q
theorem invG_cutR {g : Prop} {R : List Nat} {st : St} {p size : Nat} (hi : InvG g R st p) (hR : Plain R) : cutR R st.cut (st.fetch R size).place = (st.fetch R size).cut := by
  obtain ⟨st0, p0, h0, h1, hb, hpl, her, hp⟩ := invG_st0 hi
  have h := inv_cutR (size := size) h0 hR
  have hd : st.data R size = st0.data R size := by unfold St.data; rw [hb, hpl]
  have e : st.cut = st0.cut := by unfold St.cut; rw [hb, hpl]
  have e2 : (st.fetch R size).place = (st0.fetch R size).place := by show st.place + _ = st0.place + _; rw [hpl]
  have e3 : (st.fetch R size).cut = (st0.fetch R size).cut := by
    unfold St.cut
    rw [e2]
    show _ - (split _).2.toList.length = _ - (split _).2.toList.length
    rw [hd]
  rw [e, e2, e3, h]
/-- a sign read out of the chunk at hand -/
theorem invG_step {g : Prop} {R : List Nat} {st : St} {p : Nat} (hi : InvG g R st p) (ho : st.off < st.chunk.length) : InvG g R { st with off := st.off + 1 } (p + 1) ∧ st.chunk.getD st.off 0 = (norm R).getD p 0 := by
  obtain ⟨q0, j, hck, hj, hle, hp, hcl, _⟩ := invG_p0 hi
  have h := invG_off hi (st.off + 1) ho
  rw [show p - st.off + (st.off + 1) = p + 1 by rw [hp, Nat.add_sub_cancel]; rfl] at h
  refine ⟨h, ?_⟩
  rw [hck, getD_drop, hp, List.getD_eq_getElem?_getD, List.getD_eq_getElem?_getD, List.getElem?_take_of_lt (by rw [hcl]; exact Nat.add_lt_add_left ho j)]
theorem invG_char {g : Prop} {R : List Nat} {st : St} {p : Nat} (hi : InvG g R st p) (hR : Plain R) (hp : p < (norm R).length) :
    ∃ st1, st.charR R = (some ((norm R).getD p 0), st1) ∧ InvG g R st1 (p + 1) ∧ 0 < st1.off ∧ (st.off < st.chunk.length → st1 = { st with off := st.off + 1 }) ∧ (¬ st.off < st.chunk.length → st1 = { st.fetch R 10240 with off := 1 }) := by
  by_cases h1 : st.off < st.chunk.length
  · obtain ⟨g1, g2⟩ := invG_step hi h1
    refine ⟨_, ?_, g1, Nat.succ_pos _, fun _ => rfl, fun h => absurd h1 h⟩
    unfold St.charR
    rw [if_pos h1, g2]
  · have he : st.off = st.chunk.length := by
      obtain ⟨q0, j, hck, hj, hle, hp, hcl, ho⟩ := invG_p0 hi
      exact Nat.le_antisymm ho (Nat.not_lt.mp h1)
    obtain ⟨g1, g2⟩ := invG_fetch (size := 10240) hi hR he (by decide)
    have hd : st.data R 10240 ≠ [] := by
      have : decide (st.data R 10240 ≠ []) = true := by rw [g2]; exact decide_eq_true hp
      exact of_decide_eq_true this
    have ho : (st.fetch R 10240).off < (st.fetch R 10240).chunk.length := List.length_pos_iff.mpr (fetch_ne hd)
    obtain ⟨g3, g4⟩ := invG_step g1 ho
    refine ⟨_, ?_, g3, Nat.succ_pos _, fun h => absurd h h1, fun _ => rfl⟩
    unfold St.charR
    rw [if_neg h1, if_neg hd, ← g4]
    rfl
theorem invG_char_end {g : Prop} {R : List Nat} {st : St} {p : Nat} (hi : InvG g R st p) (hR : Plain R) (hp : ¬ p < (norm R).length) :
    st.charR R = (none, st.fetch R 10240) ∧ InvG g R (st.fetch R 10240) p := by
  obtain ⟨_, he⟩ := invG_end hi hp
  obtain ⟨g1, g2⟩ := invG_fetch (size := 10240) hi hR he (by decide)
  have hd : st.data R 10240 = [] := by
    refine Decidable.not_not.mp fun h => hp ?_
    have : decide (st.data R 10240 ≠ []) = true := decide_eq_true h
    rw [g2] at this
    exact of_decide_eq_true this
  refine ⟨?_, g1⟩
  unfold St.charR
  rw [if_neg (by rw [he]; exact Nat.lt_irrefl _), if_pos hd]
/-- a sign put back -/
theorem invG_unget {g : Prop} {R : List Nat} {st : St} {p : Nat} (hi : InvG g R st (p + 1)) (hg : g → 0 < st.off) : InvG g R (st.unget ((norm R).getD p 0)) p ∧ (0 < st.off → st.chunk.getD (st.off - 1) 0 = (norm R).getD p 0) := by
  obtain ⟨st0, p0, j, h0, h1, hb, hpl, her, hck, hj, hp, ho, hgg⟩ := hi
  have hle := inv_le h0
  have hcl := chunk_end hck hle hj
  have hlt : p < p0 := Nat.le_trans (Nat.le_of_eq hp) (Nat.le_trans (Nat.add_le_add_left ho j) (Nat.le_of_eq hcl.symm))
  have hsb : 0 < st.off → p = j + (st.off - 1) := fun h => by rw [← Nat.add_sub_assoc h, ← hp]; rfl
  refine ⟨?_, fun h => ?_⟩
  · unfold St.unget
    split
    · rename_i hz
      have hj2 : j = p + 1 := by rw [hp, hz]; rfl
      refine ⟨st0, p0, p, h0, h1, hb, hpl, her, ?_, Nat.le_of_lt hlt, ?_, Nat.le_trans (Nat.le_of_eq hz) (Nat.zero_le _), fun q => absurd (hg q) (by rw [hz]; exact Nat.lt_irrefl 0)⟩
      · show (norm R).getD p 0 :: st.chunk = _
        have hlt2 : p < ((norm R).take p0).length := by rw [List.length_take, Nat.min_eq_left hle]; exact hlt
        rw [List.drop_eq_getElem_cons hlt2, hck, hj2]
        congr 1
        rw [List.getElem_take, List.getD_eq_getElem?_getD, List.getElem?_eq_getElem (Nat.lt_of_lt_of_le hlt hle)]
        rfl
      · show p = p + st.off
        rw [hz]; rfl
    · rename_i hz
      exact ⟨st0, p0, j, h0, h1, hb, hpl, her, hck, hj, hsb (Nat.pos_of_ne_zero hz), Nat.le_trans (Nat.sub_le _ _) ho, hgg⟩
  · rw [hck, getD_drop, List.getD_eq_getElem?_getD, List.getD_eq_getElem?_getD, List.getElem?_take_of_lt (by rw [← hsb h]; exact hlt), ← hsb h]
/-- how the cut goes on, pieces fetched till e lies in the chunk -/
inductive Goes (R : List Nat) (e : Nat) : Nat → Nat → Nat → Nat → Prop
  | stay {c t : Nat} (h : e < (norm (R.take c)).length ∨ c = R.length) : Goes R e c t c t
  | step {c t c' t' : Nat} (h : (norm (R.take c)).length ≤ e) (h2 : c < R.length) (hn : Goes R e (cutR R c R.length) R.length c' t') : Goes R e c t c' t'
theorem norm_rest {R : List Nat} {ck : List Nat} {p0 j off p : Nat} (hck : ck = ((norm R).take p0).drop j) (hp : p = j + off) (hp0 : p0 = j + ck.length) (ho : off ≤ ck.length) (hle : p0 ≤ (norm R).length) : (norm R).drop p = ck.drop off ++ (norm R).drop p0 := by
  have e := List.take_append_drop p0 (norm R)
  have h : (norm R).drop p = ((norm R).take p0 ++ (norm R).drop p0).drop p := by rw [e]
  have hl : p ≤ ((norm R).take p0).length := by
    rw [List.length_take, Nat.min_eq_left hle]
    exact le_end hp ho hp0
  rw [h, List.drop_append_of_le_length hl, hck, List.drop_drop, hp]
theorem invG_cut_lt {g : Prop} {R : List Nat} {st : St} {p size : Nat} (hi : InvG g R st p) (hs : 2 ≤ size) : st.data R size = [] ↔ st.cut = R.length := by
  obtain ⟨st0, p0, h0, h1, hb, hpl, her, hp⟩ := invG_st0 hi
  obtain ⟨A, B, C, hABC, hC, hl, ht, hn, hch, he, hp3, hbuf⟩ := inv_cut h0
  have hple := invG_ple hi
  have e : st.cut = st0.cut := by unfold St.cut; rw [hb, hpl]
  have hlen := congrArg List.length hABC
  have hC2 := congrArg List.length hC
  rw [List.length_append, List.length_append] at hlen
  rw [List.length_append, List.length_drop] at hC2
  rw [List.length_append] at hl
  have hd : (st.data R size).length = st.buf.toList.length + min size (R.length - st.place) := by
    unfold St.data
    rw [List.length_append, partOf_len]
  rw [hb] at hC2
  constructor
  · intro h
    rw [h, List.length_nil] at hd
    lia
  · intro h
    refine List.eq_nil_of_length_eq_zero ?_
    lia
theorem fetch_nil {R : List Nat} {st : St} (hd : st.data R 10240 = []) : (st.fetch R 10240).cut = st.cut ∧ (st.fetch R 10240).place = st.place := by
  have h1 : (st.fetch R 10240).place = st.place := by
    show st.place + (partOf R 10240 st.place).length = st.place
    have : partOf R 10240 st.place = [] := (List.append_eq_nil_iff.mp hd).2
    rw [this]; rfl
  refine ⟨?_, h1⟩
  have hb : st.buf.toList = [] := (List.append_eq_nil_iff.mp hd).1
  unfold St.cut
  rw [h1, hb]
  show _ - (split (st.data R 10240)).2.toList.length = _
  rw [hd]
  rfl
def UntilIs (g : Prop) (R : List Nat) (P : Nat → Bool) (b : Bool) (k : Nat) (st : St) (p : Nat) : Prop :=
  ∃ n l st', n ≤ k ∧ Until R P b n st l st' ∧ l = runL P b ((norm R).drop p) ∧ InvG g R st' (p + l.length) ∧ (p + l.length + st.off < p + st.chunk.length → st' = { st with off := st.off + l.length }) ∧ Goes R (p + l.length) st.cut st.place st'.cut st'.place
theorem until_stop {g : Prop} {R : List Nat} {P : Nat → Bool} {b : Bool} {k p : Nat} {st : St} (ok : UOk R st) (hi : InvG g R st p) (hs : st.off + (runL P b (st.chunk.drop st.off)).length < st.chunk.length) : UntilIs g R P b k st p := by
  have hlen := invG_len hi
  have ho : st.off ≤ st.chunk.length := ok.ho
  refine ⟨0, _, _, Nat.zero_le _, .stop ok hs, ?_, ?_, fun _ => rfl, .stay (.inl (by lia))⟩
  · obtain ⟨q0, j, hck, hj, hle, hp, hcl, ho⟩ := invG_p0 hi
    rw [norm_rest hck hp hcl ho hle]
    clear hlen hcl hp hle hj hck
    exact (runL_stop (by rw [List.length_drop]; exact Nat.lt_sub_of_add_lt (by rw [Nat.add_comm]; exact hs))).symm
  · have hpo : st.off ≤ p := by obtain ⟨q0, j, _, _, _, hp, _, _⟩ := invG_p0 hi; rw [hp]; exact Nat.le_add_left _ _
    have h := invG_off hi _ (Nat.le_of_lt hs)
    rw [← Nat.add_assoc, Nat.sub_add_cancel hpo] at h
    exact h
theorem until_last {g : Prop} {R : List Nat} {P : Nat → Bool} {b : Bool} {k p : Nat} {st : St} (hR : Plain R) (ok : UOk R st) (hi : InvG g R st p) (hs2 : st.off + (runL P b (st.chunk.drop st.off)).length = st.chunk.length) (hd : st.data R 10240 = []) : UntilIs g R P b k st p := by
  obtain ⟨q0, j, hck, hj, hle, hp, hcl, ho⟩ := invG_p0 hi
  have hi2 := invG_off hi st.chunk.length (Nat.le_refl _)
  obtain ⟨f1, f2⟩ := invG_fetch (size := 10240) hi2 hR rfl (by decide)
  have hall : runL P b (st.chunk.drop st.off) = st.chunk.drop st.off := runL_all (by rw [List.length_drop, ← hs2, Nat.add_sub_cancel_left])
  have hnot : ¬ (p - st.off + st.chunk.length < (norm R).length) := fun h => by
    have h2 : decide (({ st with off := st.chunk.length } : St).data R 10240 ≠ []) = true := by rw [f2]; exact decide_eq_true h
    exact of_decide_eq_true h2 hd
  have e2 : p - st.off + st.chunk.length = q0 := by rw [hp, Nat.add_sub_cancel, hcl]
  have hq0 : q0 = (norm R).length := Nat.le_antisymm hle (Nat.not_lt.mp (e2 ▸ hnot))
  obtain ⟨h2, h1⟩ := fetch_nil hd
  have e : p + (st.chunk.length - st.off) = p - st.off + st.chunk.length := by rw [hp, Nat.add_sub_cancel, Nat.add_assoc, Nat.add_sub_cancel' ho]
  refine ⟨0, _, _, Nat.zero_le _, .last ok hs2 hd, ?_, ?_, fun h => ?_, ?_⟩
  · rw [norm_rest hck hp hcl ho hle, hq0, List.drop_length, List.append_nil, hall]
  · rw [List.length_drop, e]
    exact f1
  · rw [List.length_drop, e, e2, hq0, ← hq0, hcl, hp] at h
    exact absurd h (by rw [Nat.add_right_comm]; exact Nat.lt_irrefl _)
  · rw [h1, h2]
    exact .stay (.inr ((invG_cut_lt hi (size := 10240) (by decide)).mp hd))
theorem invG_until {g : Prop} {R : List Nat} (hR : Plain R) (hl : R.length ≤ 60) (hcd : ∀ c ∈ R, c < 1114112) (P : Nat → Bool) (b : Bool) : ∀ (k : Nat) (st : St) (p : Nat), InvG g R st p → (norm R).length + st.off ≤ k + p + st.chunk.length → UntilIs g R P b k st p := by
  intro k
  induction k with
  | zero =>
    intro st p hi hk
    have ok := invG_uok hi hl hcd
    have ho : st.off ≤ st.chunk.length := ok.ho
    have hrl := runL_le P b (st.chunk.drop st.off)
    rw [List.length_drop] at hrl
    by_cases hs : st.off + (runL P b (st.chunk.drop st.off)).length < st.chunk.length
    · exact until_stop ok hi hs
    · refine until_last hR ok hi (run_eq ho hrl hs) ?_
      have hi2 := invG_off hi st.chunk.length (Nat.le_refl _)
      obtain ⟨f1, f2⟩ := invG_fetch (size := 10240) hi2 hR rfl (by decide)
      refine Decidable.not_not.mp fun h => ?_
      have : decide (({ st with off := st.chunk.length } : St).data R 10240 ≠ []) = true := decide_eq_true h
      rw [f2] at this
      have := of_decide_eq_true this
      clear hs hrl f2
      lia
  | succ k ih =>
    intro st p hi hk
    have ok := invG_uok hi hl hcd
    have ho : st.off ≤ st.chunk.length := ok.ho
    have hrl := runL_le P b (st.chunk.drop st.off)
    rw [List.length_drop] at hrl
    by_cases hs : st.off + (runL P b (st.chunk.drop st.off)).length < st.chunk.length
    · exact until_stop ok hi hs
    have hs2 : st.off + (runL P b (st.chunk.drop st.off)).length = st.chunk.length := run_eq ho hrl hs
    by_cases hd : st.data R 10240 = []
    · exact until_last hR ok hi hs2 hd
    clear hs hrl
    have hi2 := invG_off hi st.chunk.length (Nat.le_refl _)
    obtain ⟨f1, f2⟩ := invG_fetch (size := 10240) hi2 hR rfl (by decide)
    have hall : runL P b (st.chunk.drop st.off) = st.chunk.drop st.off := runL_all (by rw [List.length_drop, ← hs2, Nat.add_sub_cancel_left])
    clear f2 hi2
    have hne : 0 < (st.fetch R 10240).chunk.length := List.length_pos_iff.mpr (fetch_ne hd)
    obtain ⟨q0, j, hck, hj, hle, hp, hcl, _⟩ := invG_p0 hi
    have hpo : p - st.off + st.chunk.length = q0 := by rw [hp, Nat.add_sub_cancel, hcl]
    rw [hpo] at f1
    have e : ∀ n, p + (st.chunk.length - st.off + n) = q0 + n := fun n => by rw [hp, ← Nat.add_assoc, Nat.add_assoc j, Nat.add_sub_cancel' ho, hcl]
    obtain ⟨n, l2, st', hn, hU, hl2, hI, hsame, hgo⟩ := ih (st.fetch R 10240) q0 f1 (by
      show (norm R).length + 0 ≤ _
      lia)
    have hdl : (st.chunk.drop st.off).length = st.chunk.length - st.off := List.length_drop
    refine ⟨n + 1, _, st', Nat.succ_le_succ hn, .more ok hs2 hd hU, ?_, ?_, fun h => ?_, ?_⟩
    · rw [norm_rest hck hp hcl ho hle, runL_app (by rw [hall]), hl2]
    · rw [List.length_append, hdl, e]
      exact hI
    · rw [List.length_append, hdl] at h
      clear hk hne hl2 hI hsame hgo f1 hall hdl
      lia
    · rw [List.length_append, hdl, e]
      have hcutn := mt (invG_cut_lt hi (size := 10240) (by decide)).mpr hd
      have hcutle : st.cut ≤ R.length := by have := invG_ple hi; unfold St.cut; lia
      have h1 := invG_place hi 10240
      have hlen := invG_len hi
      have h2 := invG_cutR (size := 10240) hi hR
      have h3 : (st.fetch R 10240).place = R.length := by rw [h1]; exact Nat.min_eq_right (by lia)
      rw [h3] at h2 hgo
      refine .step ?_ (Nat.lt_of_le_of_ne hcutle hcutn) ?_
      · clear hgo hsame hI hl2 h1 h2 h3 hk hne hall
        lia
      rw [h2]
      exact hgo
end Mine
namespace Mine
open PySem.Builtin PySem.Builtin.Str PySem.StrLaws PySem.Calls

/-! ### law 2: what its names say of the stream -/
def Rel (R : List Nat) (st : St) (u a b : Int) : Prop := u = -1 ∨ (u = ((norm (R.take st.cut)).length : Nat) ∧ a = (st.cut : Nat) ∧ b = (st.place : Nat))
def Rel3 (R : List Nat) (st : St) (k : Int) (p : Nat) (u a b : Int) : Prop := Rel R st u a b ∨ (0 < k.fmod 3 ∧ (p : Int) + 1 = u)
theorem unget_cut {st : St} {c : Nat} : (st.unget c).cut = st.cut := by unfold St.unget; split <;> rfl
theorem unget_place {st : St} {c : Nat} : (st.unget c).place = st.place := by unfold St.unget; split <;> rfl
/-! ### one sign over and over -/
theorem run_mid {T : List Nat} {p : Nat} {P : Nat → Bool} {b : Bool} : (T.take (p + (runL P b (T.drop p)).length)).drop p = runL P b (T.drop p) := by
  rw [List.drop_take, show p + (runL P b (T.drop p)).length - p = (runL P b (T.drop p)).length by lia, ← runL_take]
end Mine
namespace Mine
open PySem.Builtin PySem.Builtin.Str PySem.StrLaws PySem.Calls

/-! ### a comprehension over a text, its list kept under a name -/
section
variable {prog : Program} {w : World} {A : Around} {E : Value → Shared → Prop} {s : Shared} {h₀ : Heap} {L : Addr} {m : Str → Option Value} {env : Env}
end
end Mine
namespace Mine
open PySem.Builtin PySem.Builtin.Str PySem.StrLaws PySem.Calls

/-! ### a loop whose ledger grows -/
def GrowEnd (h₀ : Heap) (L : Addr) (J : (Str → Option Value) → List (Addr × Obj) → Prop) (own : List (Addr × Obj)) (I : Addr) (s₁ s₂ : Shared) : Prop :=
  ∃ h' tk m' nx, s₂ = { s₁ with heap := h', toks := tk } ∧ Fr h₀ L h' m' ∧ News h₀ L h' (own ++ nx) ∧ (∀ p ∈ nx, p.1 ≠ I) ∧ J m' nx
def GrowPost (h₀ : Heap) (L : Addr) (J : (Str → Option Value) → List (Addr × Obj) → Prop) (own : List (Addr × Obj)) (I : Addr) (s₁ : Shared) (f : Flow) (s₂ : Shared) : Prop :=
  match f with | .next => GrowEnd h₀ L J own I s₁ s₂ | .cont => GrowEnd h₀ L J own I s₁ s₂ | _ => False
theorem grow_end {h₀ h' : Heap} {L : Addr} {m' : Str → Option Value} {own big : List (Addr × Obj)} {I : Addr} {J : (Str → Option Value) → List (Addr × Obj) → Prop} {s₁ : Shared} {tk : Nat} (nx : List (Addr × Obj)) (F : Fr h₀ L h' m') (N : News h₀ L h' big) (hsub : ∀ p ∈ own ++ nx, p ∈ big) (hn : ∀ p ∈ nx, p.1 ≠ I) (hj : J m' nx) :
    GrowPost h₀ L J own I s₁ .next { s₁ with heap := h', toks := tk } := ⟨h', tk, m', nx, rfl, F, fun p hp => N p (hsub p hp), hn, hj⟩
theorem mix3 (x y z : Str) (m₀ : Str → Option Value) : ∃ u v w : Option Value, m₀ = fun k => if k = x then u else if k = y then v else if k = z then w else m₀ k := by
  exact ⟨m₀ x, m₀ y, m₀ z, funext fun _ => lit1 rfl fun _ => lit1 rfl fun _ => lit1 rfl fun _ => rfl⟩
theorem mix3' (x y z : Str) {m₀ m' : Str → Option Value} (h : ∀ k, k ≠ x → k ≠ y → k ≠ z → m' k = m₀ k) : ∃ u v w : Option Value, m' = fun k => if k = x then u else if k = y then v else if k = z then w else m₀ k := by
  exact ⟨m' x, m' y, m' z, funext fun k => lit1 rfl fun h1 => lit1 rfl fun h2 => lit1 rfl fun h3 => h k h1 h2 h3⟩
section
variable {prog : Program} {w : World} {A : Around} {E : Value → Shared → Prop} {s : Shared} {env : Env} {h₀ : Heap} {x : PySem.Str} {body : List Stmt} {Q : Flow → Shared → Prop}
theorem loop_Lg {l : Addr} {vs : List Value} {nn : Nat} {m₀ : PySem.Str → Option Value} {news : List (Addr × Obj)} (J : (PySem.Str → Option Value) → Nat → (PySem.Str → Option Value) → List (Addr × Obj) → Prop)
    (hh : A.handled = none) (hl : (l, W.listOf vs.toArray nn) ∈ news) (F : Fr h₀ env.locals s.heap m₀) (N : News h₀ env.locals s.heap news) (hj : J m₀ 0 m₀ news)
    (turn : ∀ I i v m₁ news₁ h tk own, vs[i]? = some v → (∃ oI, (I, oI) ∈ own) → (∀ p ∈ own, p.1 = I ∨ p.1 = l) → (∀ p ∈ news₁, p.1 ≠ I) → (l, W.listOf vs.toArray nn) ∈ news₁ → J m₀ i m₁ news₁ → Fr h₀ env.locals h (fun y => if y = x then some v else m₁ y) → News h₀ env.locals h (own ++ news₁) →
      wpAny (model prog w) A (execs body env) (GrowPost h₀ env.locals (fun m' nx => (l, W.listOf vs.toArray nn) ∈ nx ∧ J m₀ (i + 1) m' nx) own I { s with heap := h, toks := tk }) E { s with heap := h, toks := tk })
    (done : ∀ m₁ news₁ h tk, (l, W.listOf vs.toArray nn) ∈ news₁ → J m₀ vs.length m₁ news₁ → Fr h₀ env.locals h m₁ → News h₀ env.locals h news₁ → Q .next { s with heap := h, toks := tk }) :
    wpAny (model prog w) A (pyIter (.ref l)) (fun it s₂ => LoopAtV prog w A h₀ env x body Q E it s₂) E s := by
  have at0 := (N _ hl).1
  have isl : s.heap.IsList l vs.toArray := ⟨_, at0, rfl, nn, rfl⟩
  have walks := Walks.list (prog := prog) (w := w) hh s.heap.objs.size l (Nat.ne_of_lt (Heap.lt_size at0)) vs.toArray
  have apart : ∀ p ∈ news, p.1 ∉ [s.heap.objs.size] := fun p hp => by rw [List.mem_singleton]; exact N.apart p hp
  have own1 : env.locals ∉ [s.heap.objs.size, l] := by
    simp only [List.mem_cons, List.not_mem_nil, or_false, not_or]
    exact ⟨Nat.ne_of_lt F.ns.lt, (N _ hl).2.1.symm⟩
  have fresh : ∀ b ∈ [s.heap.objs.size], h₀.get? b = none := by simpa using next_is_new F
  have one : ∀ i v m₁ news₁ h tk own, vs[i]? = some v → ((l, W.listOf vs.toArray nn) ∈ news₁ ∧ J m₀ i m₁ news₁) → (∀ p ∈ news₁, p.1 ∉ [s.heap.objs.size]) → (∀ p ∈ own, p.1 ∈ [s.heap.objs.size, l]) → (∃ o, (s.heap.objs.size, o) ∈ own) →
      Fr h₀ env.locals h (fun y => if y = x then some v else m₁ y) → News h₀ env.locals h (own ++ news₁) →
      wpAny (model prog w) A (execs body env) (LoopStepV h₀ env.locals [s.heap.objs.size] own (fun m nx => (l, W.listOf vs.toArray nn) ∈ nx ∧ J m₀ (i + 1) m nx) { s with heap := h, toks := tk } (fun v s' => Q (.ret v) s') fun s' => Q .next s') E { s with heap := h, toks := tk } :=
    fun i v m₁ news₁ h tk own hv hJ off mine hI F₁ N₁ =>
      wpAny_mono (turn _ i v m₁ news₁ h tk own hv hI (fun p hp => by simpa using mine p hp) (fun p hp => by simpa using off p hp) hJ.1 hJ.2 F₁ N₁) (fun f s₂ q => by
        have step : GrowEnd h₀ env.locals (fun m' nx => (l, W.listOf vs.toArray nn) ∈ nx ∧ J m₀ (i + 1) m' nx) own s.heap.objs.size { s with heap := h, toks := tk } s₂ → LoopStepU h₀ env.locals [s.heap.objs.size] own (fun m nx => (l, W.listOf vs.toArray nn) ∈ nx ∧ J m₀ (i + 1) m nx) { s with heap := h, toks := tk } .next s₂ :=
          fun ⟨_, _, _, _, e, F₂, N₂, apart₂, hJ₂⟩ => e ▸ LoopStepU.intro F₂ N₂ (fun p hp => by simpa using apart₂ p hp) hJ₂
        cases f with
        | next => exact LoopStepV.ofU (step q)
        | cont => exact .cont (step q)
        | ret v => exact absurd q id
        | brk => exact absurd q id) fun _ _ q => q
  exact wpAny_pyIter_list isl ⟨_, _, _, _, _, _, m₀, news, fun i m nx => (l, W.listOf vs.toArray nn) ∈ nx ∧ J m₀ i m nx, rfl, walks, own1, fresh, apart, ⟨⟨_, Heap.get?_push_size _ rfl, rfl, rfl⟩, isl.push _⟩, F.push _, N.grown fun _ _ => Heap.get?_push_of_some _, ⟨hl, hj⟩,
    fun i v m₁ news₁ s₁ own ⟨h, tk, e⟩ _ hv hJ off mine _ held ⟨⟨o, ho, _⟩, _⟩ F₁ N₁ => by
      subst e
      exact one i v m₁ news₁ h tk own ((List.getElem?_toArray (xs := vs)).symm.trans hv) hJ off mine ⟨o, held _ (.head _) (next_is_new F) o ho⟩ F₁ N₁,
    fun h tk m nx F₁ N₁ _ hJ => done m nx h tk hJ.1 hJ.2 F₁ N₁⟩
end

theorem mix_set1 {m' m₀ : Str → Option Value} (x s : Str) {a : Str} (hx : ∃ t, m' x = some (.str a t)) (ho : ∀ z, z ≠ s → z ≠ x → m' z = m₀ z) :
    ∃ (tx : Tok) (u : Option Value), m' = fun z => if z = s then u else if z = x then some (.str a tx) else m₀ z := by
  obtain ⟨tx, hx⟩ := hx
  exact ⟨tx, m' s, funext fun z => lit1 rfl fun h1 => lit1 hx fun h2 => ho z h1 h2⟩

/-! ### a list of places -/
abbrev tup2 (a b : Int) (t u : Tok) : Obj := { cls := .type "tuple", data := .seq #[.int a t, .int b u] }
def PlOk (T : List Nat) (n : Nat) (ws : List Value) (r : List (Addr × Obj)) : Prop :=
  ws.length = n + 1 ∧ ∀ i v, ws[i]? = some v → ∃ (Ti : Nat) (a b : Int) (t1 t2 : Tok), v = .ref Ti ∧ (Ti, tup2 a b t1 t2) ∈ r ∧ a = ((T.take i).foldl adv (1, 0)).1 ∧ b = ((T.take i).foldl adv (1, 0)).2
theorem PlOk.start {T : List Nat} {D : Nat} {t1 t2 : Tok} {r : List (Addr × Obj)} (h : (D, tup2 1 0 t1 t2) ∈ r) : PlOk T 0 [.ref D] r := by
  refine ⟨rfl, fun i v hv => ?_⟩
  match i, hv with
  | 0, hv => obtain rfl := Option.some.inj hv; exact ⟨D, 1, 0, t1, t2, rfl, h, rfl, rfl⟩
  | (n + 1), hv => cases hv
theorem PlOk.last {T : List Nat} {n : Nat} {ws : List Value} {r : List (Addr × Obj)} (h : PlOk T n ws r) : ∃ (wi : List Value) (Tl : Nat) (a b : Int) (t1 t2 : Tok), ws = wi ++ [.ref Tl] ∧ (Tl, tup2 a b t1 t2) ∈ r ∧ a = ((T.take n).foldl adv (1, 0)).1 ∧ b = ((T.take n).foldl adv (1, 0)).2 := by
  obtain ⟨hl, hat⟩ := h
  have hne : ws ≠ [] := by intro e; rw [e] at hl; cases hl
  have hv : ws[n]? = some (ws.getLast hne) := by rw [List.getLast_eq_getElem, List.getElem?_eq_getElem (by lia)]; congr 2; lia
  obtain ⟨Ti, a, b, t1, t2, e, hm, ha, hb⟩ := hat n _ hv
  refine ⟨ws.dropLast, Ti, a, b, t1, t2, ?_, hm, ha, hb⟩
  rw [← e, List.dropLast_concat_getLast hne]
theorem PlOk.snoc {T : List Nat} {n c : Nat} {ws : List Value} {r r' : List (Addr × Obj)} (h : PlOk T n ws r) (hsub : ∀ p ∈ r, p ∈ r') (hc : T[n]? = some c) {D : Nat} {a b : Int} {t1 t2 : Tok} (hm : (D, tup2 a b t1 t2) ∈ r') (ha : a = (adv ((T.take n).foldl adv (1, 0)) c).1) (hb : b = (adv ((T.take n).foldl adv (1, 0)) c).2) :
    PlOk T (n + 1) (ws ++ [.ref D]) r' := by
  obtain ⟨hl, hat⟩ := h
  refine ⟨by rw [List.length_append, hl]; rfl, fun i v hv => ?_⟩
  rcases Nat.lt_or_ge i ws.length with hi | hi
  · rw [List.getElem?_append_left hi] at hv
    obtain ⟨Ti, a, b, t1, t2, e, hm, ha, hb⟩ := hat i v hv
    exact ⟨Ti, a, b, t1, t2, e, hsub _ hm, ha, hb⟩
  · rw [List.getElem?_append_right hi] at hv
    have hi2 : i = n + 1 := by
      rcases Nat.lt_or_ge (i - ws.length) 1 with h | h
      · lia
      · rw [List.getElem?_eq_none (by simpa using h)] at hv; cases hv
    subst hi2
    rw [hl, Nat.sub_self] at hv
    obtain rfl := Option.some.inj hv
    refine ⟨D, a, b, t1, t2, rfl, hm, ?_, ?_⟩ <;> rw [List.take_add_one, hc, List.foldl_append] <;> assumption
theorem PlOk.mono {T : List Nat} {n : Nat} {ws : List Value} {r r' : List (Addr × Obj)} (h : PlOk T n ws r) (hs : ∀ q ∈ r, q ∈ r') : PlOk T n ws r' := by
  refine ⟨h.1, fun i v hv => ?_⟩
  obtain ⟨Ti, a, b, t1, t2, e, hm, ha, hb⟩ := h.2 i v hv
  exact ⟨Ti, a, b, t1, t2, e, hs _ hm, ha, hb⟩
theorem PlOk.at {T : List Nat} {n : Nat} {ws : List Value} {r : List (Addr × Obj)} (h : PlOk T n ws r) {p : Nat} (hp : p ≤ n) : ∃ (Ti : Nat) (a b : Int) (t1 t2 : Tok), ws[p]? = some (.ref Ti) ∧ (Ti, tup2 a b t1 t2) ∈ r ∧ a = ((T.take p).foldl adv (1, 0)).1 ∧ b = ((T.take p).foldl adv (1, 0)).2 := by
  obtain ⟨hl, hat⟩ := h
  have hv : ws[p]? = some (ws[p]'(by lia)) := List.getElem?_eq_getElem _
  obtain ⟨Ti, a, b, t1, t2, e, hm, ha, hb⟩ := hat p _ hv
  exact ⟨Ti, a, b, t1, t2, by rw [hv, e], hm, ha, hb⟩

theorem plv_a {P : Nat × Nat} {c : Nat} {a : Int} (ha : a = P.1) (hc : [c] = [10]) : a + 1 = ((adv P c).1 : Nat) := by
  obtain rfl : c = 10 := by simpa using hc
  rw [ha]; rfl
theorem plv_b {P : Nat × Nat} {c : Nat} {a : Int} (ha : a = P.1) (hc : ¬ [c] = [10]) : a = ((adv P c).1 : Nat) := by
  have h : ¬ c = 10 := fun e => hc (by rw [e])
  rw [ha]; simp [adv, h]
theorem plv_c {P : Nat × Nat} {c : Nat} (hc : [c] = [10]) : (0 : Int) = ((adv P c).2 : Nat) := by
  obtain rfl : c = 10 := by simpa using hc
  rfl
theorem plv_d {P : Nat × Nat} {c : Nat} {b : Int} (hb : b = P.2) (hc : ¬ [c] = [10]) : b + 1 = ((adv P c).2 : Nat) := by
  have h : ¬ c = 10 := fun e => hc (by rw [e])
  rw [hb]; simp [adv, h]

def PlJ (D9 : Nat) (T : List Nat) (news : List (Addr × Obj)) (m₀ : Str → Option Value) (i : Nat) (m' : Str → Option Value) (nx : List (Addr × Obj)) : Prop :=
  ∃ (ws : List Value) (n2 : Nat) (r : List (Addr × Obj)), nx = (D9, W.listOf ws.toArray n2) :: r ∧ (∀ p ∈ r, p.1 ≠ D9) ∧ (∀ p ∈ news, p ∈ r) ∧ PlOk T i ws r ∧ ∃ u v y : Option Value, m' = fun z => if z = Str.ofString "sign" then u else if z = Str.ofString "line" then v else if z = Str.ofString "column" then y else m₀ z
theorem places_step {h₀ h' : Heap} {L : Addr} {m' m₀ : Str → Option Value} {T : List Nat} {i c Dg D9 Tn Tl I nn n3 : Nat} {ol : Obj} {vs wi : List Value} {news own r r2 : List (Addr × Obj)} {a b : Int} {t u : Tok} {s₁ : Shared} {tk : Nat} (F : Fr h₀ L h' m')
    (N : News h₀ L h' ((Tn, tup2 a b t u) :: (Tl, ol) :: (D9, W.listOf (wi ++ [Value.ref Tl] ++ [Value.ref Tn]).toArray n3) :: r2)) (hr2 : own ++ r = r2) (hID : D9 ≠ I) (hIr : ∀ p ∈ r, p.1 ≠ I) (hTI : Tn ≠ I) (hT9 : Tn ≠ D9)
    (hne : ∀ p ∈ r, p.1 ≠ D9) (hsub : ∀ p ∈ news, p ∈ r) (hg : (Dg, W.listOf vs.toArray nn) ∈ news) (hP : PlOk T i (wi ++ [Value.ref Tl]) r) (hc : T[i]? = some c) (ha : a = ((adv ((T.take i).foldl adv (1, 0)) c).1 : Nat)) (hb : b = ((adv ((T.take i).foldl adv (1, 0)) c).2 : Nat))
    (hm : ∀ k, k ≠ Str.ofString "sign" → k ≠ Str.ofString "line" → k ≠ Str.ofString "column" → m' k = m₀ k) :
    GrowPost h₀ L (fun m' nx => (Dg, W.listOf vs.toArray nn) ∈ nx ∧ PlJ D9 T news m₀ (i + 1) m' nx) own I s₁ .next { s₁ with heap := h', toks := tk } := by
  refine grow_end ((D9, W.listOf (wi ++ [Value.ref Tl] ++ [Value.ref Tn]).toArray n3) :: (Tn, tup2 a b t u) :: r) F N (fun p hp => ?_) (fun p hp => ?_) ⟨.tail _ (.tail _ (hsub _ hg)), _, _, _, rfl, fun p hp => ?_, fun p hp => .tail _ (hsub p hp), PlOk.snoc hP (fun p hp => .tail _ hp) hc (.head _) ha hb, mix3' _ _ _ hm⟩
  · rcases List.mem_append.mp hp with hp | hp
    · exact .tail _ (.tail _ (.tail _ (hr2 ▸ List.mem_append.mpr (.inl hp))))
    · rcases List.mem_cons.mp hp with rfl | hp
      · exact .tail _ (.tail _ (.head _))
      · rcases List.mem_cons.mp hp with rfl | hp
        · exact .head _
        · exact .tail _ (.tail _ (.tail _ (hr2 ▸ List.mem_append.mpr (.inr hp))))
  · rcases List.mem_cons.mp hp with rfl | hp
    · exact hID
    · rcases List.mem_cons.mp hp with rfl | hp
      · exact hTI
      · exact hIr p hp
  · rcases List.mem_cons.mp hp with rfl | hp
    · exact hT9
    · exact hne p hp

/-! ### the texts of law 4 -/
def SG4 : List (List Nat) := [[97], [10], [13], [60], [13, 10], [1], [32], [233], [64976], [12], [0], [128512]]
def sgn4 (n : Int) : List Nat := SG4.getD (n.fmod 12).toNat []
def nums4 (ns : List Int) : List Int := if ns = [] then [13] else ns.take 16
def raw4 (ns : List Int) : List Nat := ((nums4 ns).map sgn4).flatten
def SS4 : List (List Nat) := [[60, 10], [97, 10, 32], [], [1, 64976, 97, 60, 10], [13, 233, 0], [128512, 12]]
abbrev sg (l : List Nat) : List Str := l.map fun c => S [c]
theorem nl_str : Str.ofString "\n" = S [10] := by decide +kernel
theorem sg_snoc {vs : List Value} {l : List Nat} {c : Nat} {y : Str} {t : Tok} (h : StrsAre vs (sg l)) (e : y = S [c]) : StrsAre (vs ++ [.str y t]) (sg (l ++ [c])) := by
  subst e
  show StrsAre _ ((l ++ [c]).map _)
  rw [List.map_append]
  exact kct_snoc h
theorem fmod12 (n : Int) : n.fmod 12 = 0 ∨ n.fmod 12 = 1 ∨ n.fmod 12 = 2 ∨ n.fmod 12 = 3 ∨ n.fmod 12 = 4 ∨ n.fmod 12 = 5 ∨ n.fmod 12 = 6 ∨ n.fmod 12 = 7 ∨ n.fmod 12 = 8 ∨ n.fmod 12 = 9 ∨ n.fmod 12 = 10 ∨ n.fmod 12 = 11 := by
  have h1 := Int.fmod_nonneg_of_pos n (show (0 : Int) < 12 by decide)
  have h2 := Int.fmod_lt_of_pos n (show (0 : Int) < 12 by decide)
  obtain ⟨k, hk⟩ := Int.eq_ofNat_of_zero_le h1
  rw [hk] at h2 ⊢
  have h3 : k < 12 := Int.ofNat_lt.mp h2
  clear h1 h2 hk
  revert k
  decide
theorem sgn4_str (k : Int) : [Str.ofString "a", Str.ofString "\n", Str.ofString "\x0d", Str.ofString "<", Str.ofString "\x0d\n", Str.ofString "\x01", Str.ofString " ", Str.ofString "é", Str.ofString "\ufdd0", Str.ofString "\x0c", Str.ofString "\x00", Str.ofString "😀"].getD (k.fmod 12).toNat Str.empty = S (sgn4 k) := by
  unfold sgn4
  rcases fmod12 k with h | h | h | h | h | h | h | h | h | h | h | h <;> rw [h] <;> decide +kernel
theorem sgn4_len (k : Int) : (sgn4 k).length ≤ 2 := by
  unfold sgn4
  rcases fmod12 k with h | h | h | h | h | h | h | h | h | h | h | h <;> rw [h] <;> decide
theorem sgn4_ne (k : Int) : sgn4 k ≠ [] := by
  unfold sgn4
  rcases fmod12 k with h | h | h | h | h | h | h | h | h | h | h | h <;> rw [h] <;> decide
theorem sgn4_in (k : Int) : ∀ c ∈ sgn4 k, c ∈ SG4.flatten := by
  unfold sgn4
  rcases fmod12 k with h | h | h | h | h | h | h | h | h | h | h | h <;> rw [h] <;> decide
theorem nums4_len (ns : List Int) : (nums4 ns).length ≤ 16 := by
  unfold nums4
  split
  · decide
  · rw [List.length_take]; lia
theorem nums4_ne (ns : List Int) : nums4 ns ≠ [] := by
  unfold nums4
  split
  · decide
  · rename_i h
    cases ns with
    | nil => exact absurd rfl h
    | cons a r => simp
theorem flat4_len : ∀ l : List Int, ((l.map sgn4).flatten).length ≤ 2 * l.length
  | [] => by simp
  | a :: r => by
    have h1 := sgn4_len a
    have h2 := flat4_len r
    rw [List.map_cons, List.flatten_cons, List.length_append, List.length_cons]
    lia
theorem raw4_len (ns : List Int) : (raw4 ns).length ≤ 32 := by
  have h1 := flat4_len (nums4 ns)
  have h2 := nums4_len ns
  unfold raw4
  lia
theorem raw4_in (ns : List Int) : ∀ c ∈ raw4 ns, c ∈ SG4.flatten := by
  intro c hc
  obtain ⟨l, hl, hc⟩ := List.mem_flatten.mp hc
  obtain ⟨k, _, rfl⟩ := List.mem_map.mp hl
  exact sgn4_in k c hc
theorem SG4_all : ∀ c ∈ SG4.flatten, (waits c = true → c = 13) ∧ c < 1114112 ∧ isInv c = badS c := by decide
theorem raw4_raw (ns : List Int) : Raw (raw4 ns) where
  len := Nat.le_trans (raw4_len ns) (by decide)
  ne := by
    intro e
    cases hn : nums4 ns with
    | nil => exact nums4_ne ns hn
    | cons a r =>
      have h : sgn4 a ∈ (nums4 ns).map sgn4 := List.mem_map.mpr ⟨_, by rw [hn]; exact .head _, rfl⟩
      exact sgn4_ne _ (List.flatten_eq_nil_iff.mp e _ h)
  plain := fun c hc => (SG4_all c (raw4_in ns c hc)).1
  code := fun c hc => (SG4_all c (raw4_in ns c hc)).2.1
  bad := fun c hc => (SG4_all c (raw4_in ns c hc)).2.2
/-! ### lists and tuples of signs -/
theorem sg_getD {l : List Nat} {n : Nat} (h : n < l.length) : (sg l).getD n Str.empty = S [l.getD n 0] := by
  simp [List.getD, h]
theorem sg_len {vs : List Value} {l : List Nat} (h : StrsAre vs (sg l)) : vs.length = l.length := by rw [StrsAre.length h, List.length_map]
section
variable {prog : Program} {w : World} {A : Around} {E : Value → Shared → Prop} {s : Shared}
theorem len_sg {a : Addr} {vs : List Value} {l : List Nat} {Q : Value → Shared → Prop} (hl : s.heap.IsList a vs.toArray) (hi : StrsAre vs (sg l)) (hfit : l.length ≤ 1000000)
    (h : Q (.int l.length (s.toks + 1)) { s with toks := s.toks + 1 + 1 }) : wpAny (model prog w) A (call (.builtin "len") [.ref a]) Q E s := by
  have e : (sg l).length = l.length := List.length_map ..
  refine len_strsA hl hi (by rw [e]; lia) ?_
  rw [e]
  exact h
theorem item_sg {value slice : Expr} {a : Addr} {vs : List Value} {l : List Nat} {k : Int} {u : Tok} {Q : Value → Shared → Prop} (hl : s.heap.IsList a vs.toArray) (hi : StrsAre vs (sg l))
    (h0 : 0 ≤ k) (hk : k < l.length) (hfit : l.length ≤ 1000000) (h : ∀ t', Q (.str (S [l.getD k.toNat 0]) t') s)
    (hs : subscripted slice false (.ref a) (.int k u) = operate [.ref a, .int k u] (getItem (.ref a) (.int k u)) := by with_unfolding_all rfl) (hg : ∀ r, letTemporaryGo value (.ref a) r = pure () := by intro _; with_unfolding_all rfl) :
    wpAny (model prog w) A (subscriptTail value slice (.ref a) (.int k u)) Q E s := by
  have e : (sg l).length = l.length := List.length_map ..
  refine item_strsA hl hi h0 (by rw [e]; lia) (by lia) (fun t' => ?_) hs hg
  rw [sg_getD (by lia)]
  exact h t'
theorem in_sg {T : Addr} {ts : List Value} {l : List Nat} {c : Nat} {u : Tok} {Q : Value → Shared → Prop} (ht : IsTup s.heap T ts.toArray) (hi : StrsAre ts (sg l)) (hu : A.units + 64 < cLine) (h : Q (.bool (decide (c ∈ l))) s) :
    wpAny (model prog w) A (compareOp .In (.str (S [c]) u) (.ref T)) Q E s := by
  have e : (sg l).any (· == S [c]) = decide (c ∈ l) := by
    rw [Bool.eq_iff_iff, List.any_eq_true, decide_eq_true_eq]
    constructor
    · rintro ⟨y, hy, e⟩
      obtain ⟨d, hd, rfl⟩ := List.mem_map.mp hy
      have := S_inj.mp (beq_iff_eq.mp e)
      simp only [List.cons.injEq, and_true] at this
      exact this ▸ hd
    · intro h
      exact ⟨_, List.mem_map.mpr ⟨c, h, rfl⟩, beq_self_eq_true _⟩
  refine in_tuple_strs ht hi ?_
  rw [e]
  exact h
end
/-- where the law's names stand in the stream -/
def Rel4 (R : List Nat) (st : St) (u a b : Int) : Prop := u = ((norm (R.take st.cut)).length : Nat) ∧ a = (st.cut : Nat) ∧ b = (st.place : Nat)
end Mine
namespace Mine
open PySem.Builtin PySem.Builtin.Str PySem.StrLaws PySem.Calls

/-! ### law 4: a sign read, its names -/
def Same4 (R : List Nat) (st st1 : St) (p : Nat) : Prop := (p : Int) ≠ ((norm (R.take st.cut)).length : Int) ∧ st1.cut = st.cut ∧ st1.place = st.place
def Next4 (R : List Nat) (st st1 : St) (p : Nat) : Prop := (p : Int) = ((norm (R.take st.cut)).length : Int) ∧ st1.place = Min.min (st.place + R.length) R.length ∧ 0 < st1.place ∧ cutR R st.cut st1.place = st1.cut
theorem fetch4 {R : List Nat} {st : St} {p : Nat} (hi : InvG True R st p) (hr : Raw R) (hR : R.length ≤ 32) : (st.fetch R 10240).place = Min.min (st.place + R.length) R.length ∧ 0 < (st.fetch R 10240).place ∧ cutR R st.cut (st.fetch R 10240).place = (st.fetch R 10240).cut := by
  have h1 := invG_place hi 10240
  have h2 := invG_cutR (size := 10240) hi hr.plain
  have h3 : 0 < R.length := List.length_pos_iff.mpr hr.ne
  refine ⟨by rw [h1]; lia, by rw [h1]; lia, h2⟩
theorem char4 {R : List Nat} {st : St} {p : Nat} (hi : InvG True R st p) (hr : Raw R) (hR : R.length ≤ 32) :
    (∃ st1, p < (norm R).length ∧ st.charR R = (some ((norm R).getD p 0), st1) ∧ InvG True R st1 (p + 1) ∧ 0 < st1.off ∧ (Same4 R st st1 p ∨ Next4 R st st1 p)) ∨
    (∃ st1, ¬ p < (norm R).length ∧ st.charR R = (none, st1) ∧ InvG True R st1 p ∧ Next4 R st st1 p) := by
  have hln := invG_len hi
  have ho := (invG_ok hi hr.len).ho
  obtain ⟨f1, f2, f3⟩ := fetch4 hi hr hR
  by_cases hp : p < (norm R).length
  · left
    obtain ⟨st1, c1, c2, c3, c4, c5⟩ := invG_char hi hr.plain hp
    refine ⟨st1, hp, c1, c2, c3, ?_⟩
    by_cases h : st.off < st.chunk.length
    · left
      have e := c4 h
      exact ⟨by lia, by rw [e]; rfl, by rw [e]⟩
    · right
      have e := c5 h
      subst e
      exact ⟨by lia, f1, f2, f3⟩
  · right
    obtain ⟨c1, c2⟩ := invG_char_end hi hr.plain hp
    have he := (invG_end hi hp).2
    exact ⟨_, hp, c1, c2, by lia, f1, f2, f3⟩
theorem back4 {R : List Nat} {st : St} {p : Nat} (hi : InvG True R st (p + 1)) (ho : 0 < st.off) : InvG True R (st.unget ((norm R).getD p 0)) p ∧ (0 < st.off → st.chunk.getD (st.off - 1) 0 = (norm R).getD p 0) := invG_unget hi fun _ => ho
theorem crlf_bad : ∀ l : List Nat, (crlf l).countP badS = l.countP badS := by
  intro l
  induction l using crlf.induct with
  | case1 => rfl
  | case2 c => rfl
  | case3 c e t h ih =>
    rw [crlf, if_pos h, List.countP_cons, List.countP_cons, List.countP_cons, ih]
    obtain ⟨rfl, rfl⟩ := h
    rfl
  | case4 c e t h ih =>
    rw [crlf, if_neg h, List.countP_cons, ih, ← List.countP_cons]
theorem norm_bad (l : List Nat) : (norm l).countP badS = l.countP badS := by
  rw [← crlf_bad l]
  unfold norm crs
  rw [List.countP_map]
  refine List.countP_congr fun c _ => ?_
  show badS (if c = 13 then 10 else c) = true ↔ badS c = true
  split
  · rename_i h; subst h; decide
  · rfl
theorem run_all0 {l : List Nat} : runL (fun c => decide (c ∈ ([] : List Nat))) false l = l := by
  induction l with
  | nil => rfl
  | cons a r ih =>
    unfold runL at ih ⊢
    rw [List.takeWhile_cons]
    simp only [List.not_mem_nil, decide_false, beq_self_eq_true, if_true] at ih ⊢
    rw [ih]
theorem sg_at {vs : List Value} {l : List Nat} {i : Nat} {v : Value} (h : StrsAre vs (sg l)) (hv : vs[i]? = some v) : ∃ (c : Nat) (t : Tok), l[i]? = some c ∧ v = .str (S [c]) t := by
  have hi : i < l.length := by
    have := (List.getElem?_eq_some_iff.mp hv).1
    rw [sg_len h] at this
    exact this
  have hc : l[i]? = some l[i] := List.getElem?_eq_getElem hi
  obtain ⟨t, ht⟩ := StrsAre.at h (show (sg l)[i]? = some (S [l[i]]) by rw [List.getElem?_map, hc]; rfl)
  rw [hv] at ht
  exact ⟨_, t, hc, Option.some.inj ht⟩
/-! the cut goes on, piece by piece -/
theorem goes4 {R : List Nat} {e c t c' t' : Nat} (h : Goes R e c t c' t') : ((e < (norm (R.take c)).length ∨ c = R.length) ∧ c' = c ∧ t' = t) ∨ ((norm (R.take c)).length ≤ e ∧ c < R.length ∧ Goes R e (cutR R c R.length) R.length c' t') := by
  cases h with
  | stay h => exact .inl ⟨h, rfl, rfl⟩
  | step h h2 hn => exact .inr ⟨h, h2, hn⟩
theorem cutR_gt {R : List Nat} {c : Nat} (h : c < R.length) : c < cutR R c R.length ∧ cutR R c R.length ≤ R.length := by
  unfold cutR
  split <;> lia
/-! ### runs of a list of signs -/
theorem strs_take : ∀ {vs : List Value} {ns : List Str} (n : Nat), StrsAre vs ns → StrsAre (vs.take n) (ns.take n)
  | _, _, 0, _ => by simp only [List.take_zero]; exact .nil
  | _, _, n + 1, .nil => by simp only [List.take_nil]; exact .nil
  | _, _, n + 1, .cons i t h => by simp only [List.take_succ_cons]; exact .cons i t (strs_take n h)
theorem strs_drop : ∀ {vs : List Value} {ns : List Str} (n : Nat), StrsAre vs ns → StrsAre (vs.drop n) (ns.drop n)
  | _, _, 0, h => by simpa only [List.drop_zero] using h
  | _, _, n + 1, .nil => by simp only [List.drop_nil]; exact .nil
  | _, _, n + 1, .cons i t h => by simp only [List.drop_succ_cons]; exact strs_drop n h
section
variable {prog : Program} {w : World} {A : Around} {E : Value → Shared → Prop} {s : Shared} {h₀ : Heap} {L l : Addr} {m : PySem.Str → Option Value} {news : List (Addr × Obj)} {value slice : PySem.Expr} {vs : List Value} {T : List Nat} {Q : Value → Shared → Prop}
theorem mid_L {a b : Nat} {u v : Tok} (F : Fr h₀ L s.heap m) (N : News h₀ L s.heap news) (hl : s.heap.IsList l vs.toArray) (hI : StrsAre vs (sg T))
    (hab : a ≤ b) (hb : b ≤ T.length) (hz : T.length ≤ 10000)
    (h : ∀ D ws h', Fr h₀ L h' m → News h₀ L h' ((D, W.listOf (List.toArray ws) 0) :: news) → (∀ p ∈ news, p.1 < D) → StrsAre ws (sg ((T.take b).drop a)) → Q (.ref D) { s with heap := h' })
    (hs : subscripted slice false (.ref l) (.ref s.heap.objs.size) = operate [.ref s.heap.objs.size, .ref l] (getItem (.ref l) (.ref s.heap.objs.size)) := by rfl) (ht : ∀ r, letTemporaryGo value (.ref l) r = pure () := by intro _; rfl) :
    wpAny (model prog w) A (subscriptTail value slice (.ref l) (.ref s.heap.objs.size)) Q E { s with heap := s.heap.push { cls := .type "slice", data := .fields #[.int (a : Int) u, .int (b : Int) v, .none] } } := by
  have hlen := sg_len hI
  have hS : StrsAre ((vs.take b).drop a) (sg ((T.take b).drop a)) := by
    show StrsAre _ (((T.take b).drop a).map _)
    rw [List.map_drop, List.map_take]
    exact strs_drop a (strs_take b hI)
  refine kmk_slice F N hl (.int _ _) (.int _ _) (fun D h' F' N' l1 => h D ((vs.take b).drop a) h' F' ?_ l1 hS) hs ht (by rw [List.size_toArray, PySem.sizeLine_eq]; lia)
  have e : slicePick vs.toArray (some (a : Int)) (some (b : Int)) none = ((vs.take b).drop a).toArray := by
    have hb : sliceBounds (some (a : Int)) (some (b : Int)) none vs.toArray.size = ((a : Int), (b : Int), 1) := by
      unfold sliceBounds
      simp only [Option.getD_none, show ((1 : Int) > 0) = True from by simp, if_true, List.size_toArray]
      rw [if_neg (by lia), if_neg (by lia)]
      refine Prod.ext ?_ (Prod.ext ?_ rfl)
      · dsimp only; lia
      · dsimp only; lia
    rw [kmk_pick_nat _ hb, List.drop_take]
  rw [← e]
  exact N'
theorem from_L {a : Nat} {u : Tok} (F : Fr h₀ L s.heap m) (N : News h₀ L s.heap news) (hl : s.heap.IsList l vs.toArray) (hI : StrsAre vs (sg T))
    (hab : a ≤ T.length) (hz : T.length ≤ 10000)
    (h : ∀ D ws h', Fr h₀ L h' m → News h₀ L h' ((D, W.listOf (List.toArray ws) 0) :: news) → (∀ p ∈ news, p.1 < D) → StrsAre ws (sg (T.drop a)) → Q (.ref D) { s with heap := h' })
    (hs : subscripted slice false (.ref l) (.ref s.heap.objs.size) = operate [.ref s.heap.objs.size, .ref l] (getItem (.ref l) (.ref s.heap.objs.size)) := by rfl) (ht : ∀ r, letTemporaryGo value (.ref l) r = pure () := by intro _; rfl) :
    wpAny (model prog w) A (subscriptTail value slice (.ref l) (.ref s.heap.objs.size)) Q E { s with heap := s.heap.push { cls := .type "slice", data := .fields #[.int (a : Int) u, .none, .none] } } := by
  have hlen := sg_len hI
  have hS : StrsAre (vs.drop a) (sg (T.drop a)) := by
    show StrsAre _ ((T.drop a).map _)
    rw [List.map_drop]
    exact strs_drop a hI
  refine kmk_slice F N hl (.int _ _) .none (fun D h' F' N' l1 => h D (vs.drop a) h' F' ?_ l1 hS) hs ht (by rw [List.size_toArray, PySem.sizeLine_eq]; lia)
  have e : slicePick vs.toArray (some (a : Int)) none none = (vs.drop a).toArray := by
    have hb : sliceBounds (some (a : Int)) none none vs.toArray.size = ((a : Int), ((vs.length : Nat) : Int), 1) := by
      unfold sliceBounds
      simp only [Option.getD_none, show ((1 : Int) > 0) = True from by simp, if_true, List.size_toArray]
      rw [if_neg (by lia)]
      refine Prod.ext ?_ rfl
      dsimp only; lia
    rw [kmk_pick_nat _ hb]
    congr 1
    exact List.take_of_length_le (by rw [List.length_drop]; exact Nat.le_refl _)
  rw [← e]
  exact N'
theorem join_sg {vs : List Value} {D : Addr} {T : List Nat} {Q : Value → Shared → Prop} {y : Str} {t : Tok} (hy : y = S []) (hl : s.heap.IsList D vs.toArray) (hv : StrsAre vs (sg T)) (hn : T.length ≤ 100)
    (h : ∀ t' k, Q (.str (S T) t') { s with toks := k }) : wpAny (model prog w) A (call (.builtin "str.join") [.str y t, .ref D]) Q E s := by
  refine join_S (ls := T.map fun c => [c]) ?_ hy hl (by rw [List.map_map]; exact hv) (by rw [List.length_map]; exact hn) (fun l hl => ?_) h
  · clear hv hl hn h
    induction T with
    | nil => rfl
    | cons a r ih => rw [List.map_cons, List.flatten_cons, ih]; rfl
  · obtain ⟨c, _, rfl⟩ := List.mem_map.mp hl
    exact Nat.le_of_ble_eq_true rfl
end
theorem set3 {m₀ m' : PySem.Str → Option Value} {x y z : PySem.Str} {a b c : Int} (hx : ∃ t, m' x = some (.int a t)) (hy : ∃ t, m' y = some (.int b t)) (hz : ∃ t, m' z = some (.int c t)) (ho : ∀ k, k ≠ x → k ≠ y → k ≠ z → m' k = m₀ k) :
    ∃ t u v : Tok, m' = fun k => if k = x then some (.int a t) else if k = y then some (.int b u) else if k = z then some (.int c v) else m₀ k := by
  obtain ⟨t, hx⟩ := hx
  obtain ⟨u, hy⟩ := hy
  obtain ⟨v, hz⟩ := hz
  exact ⟨t, u, v, funext fun k => lit1 hx fun h1 => lit1 hy fun h2 => lit1 hz fun h3 => ho k h1 h2 h3⟩
end Mine
namespace Mine
set_option maxHeartbeats 4000000 in
open_top hd04 for PySem.Challenge.rw_te0074_04
example : True := by
  w_top off
  trivial
end Mine
namespace Mine
open PySem.Builtin PySem.Builtin.Str PySem.StrLaws PySem.Calls
section
local macro_rules | `(tactic| walk_at $s:str) => `(tactic| k_extra $s)
local macro_rules | `(tactic| k_room) => `(tactic| ktr_room)
local macro_rules | `(tactic| tb_start) => `(tactic| k_extra "tb")
local macro_rules | `(tactic| k_all) => `(tactic| k_extra "all")
local macro_rules | `(tactic| tb_rel) => `(tactic| k_extra "rel")
local macro_rules | `(tactic| k_ne) => `(tactic| k_extra "ne")
local macro_rules | `(tactic| ktr_room) => `(tactic| k_extra "room")
local macro_rules | `(tactic| ktr_units) => `(tactic| k_extra "room")
theorem of_empty : Str.ofString "" = S [] := by decide +kernel
theorem str_is {m : Str → Option Value} {k : Str} {v y : Str} {t : Tok} (h : m k = some (.str y t)) (e : y = v) : ∃ t, m k = some (.str v t) := ⟨t, e ▸ h⟩
theorem str_empty (k : Tok) : ∃ t, some (Value.str (Str.ofString "") k) = some (Value.str (S []) t) := ⟨k, by rw [of_empty]⟩
/-- ways of an expression that meet -/
def JoinE (g : Heap) (L : Addr) (m : Str → Option Value) (news : List (Addr × Obj)) (s : Shared) (P : Value → Prop) (v : Value) (s' : Shared) : Prop :=
  ∃ h' tk', s' = { s with heap := h', toks := tk' } ∧ P v ∧ Fr g L h' m ∧ News g L h' news
theorem join_e {M : Model} {A : Around} {t : Sem Value} {E : Value → Shared → Prop} {s : Shared} {g : Heap} {L : Addr} {m : Str → Option Value} {news : List (Addr × Obj)} {Q : Value → Shared → Prop} (P : Value → Prop) (_F : Fr g L s.heap m) (_N : News g L s.heap news)
    (h1 : wpAny M A t (JoinE g L m news s P) E s)
    (h2 : ∀ (v : Value) (h' : Heap) (tk' : Nat), P v → Fr g L h' m → News g L h' news → Q v { s with heap := h', toks := tk' }) : wpAny M A t Q E s :=
  wpAny_mono h1 (fun v s' h => by obtain ⟨h', tk', rfl, hP, F, N⟩ := h; exact h2 v h' tk' hP F N) (fun _ _ h => h)
theorem join_e_end {g : Heap} {L : Addr} {m : Str → Option Value} {news : List (Addr × Obj)} {s : Shared} {P : Value → Prop} {v : Value} {h' : Heap} {tk' : Nat} (F : Fr g L h' m) (N : News g L h' news) (hP : P v) : JoinE g L m news s P v { s with heap := h', toks := tk' } :=
  ⟨h', tk', rfl, hP, F, N⟩

/-! ### is a code invalid: the leaves of its chain of tests -/
theorem inv_iff (c : Nat) : isInv c = true ↔ (1 ≤ c ∧ c ≤ 8) ∨ c = 11 ∨ (14 ≤ c ∧ c ≤ 31) ∨ (127 ≤ c ∧ c ≤ 159) ∨ (64976 ≤ c ∧ c ≤ 65007) ∨ (c % 65536 = 65534 ∨ c % 65536 = 65535) ∨ (55296 ≤ c ∧ c ≤ 57343) := by
  simp only [isInv, Bool.or_eq_true, Bool.and_eq_true, decide_eq_true_eq, beq_iff_eq, or_assoc]
theorem inv_t {c : Nat} (h : (1 ≤ c ∧ c ≤ 8) ∨ c = 11 ∨ (14 ≤ c ∧ c ≤ 31) ∨ (127 ≤ c ∧ c ≤ 159) ∨ (64976 ≤ c ∧ c ≤ 65007) ∨ (c % 65536 = 65534 ∨ c % 65536 = 65535) ∨ (55296 ≤ c ∧ c ≤ 57343)) {b : Bool} (hb : b = true) : b = isInv c := hb.trans ((inv_iff c).mpr h).symm
theorem inv_f {c : Nat} (h1 : c < 1 ∨ 8 < c) (h2 : c ≠ 11) (h3 : c < 14 ∨ 31 < c) (h4 : c < 127 ∨ 159 < c) (h5 : c < 64976 ∨ 65007 < c) (h6 : ¬ (c % 65536 = 65534 ∨ c % 65536 = 65535)) (h7 : c < 55296 ∨ 57343 < c) {b : Bool} (hb : b = false) : b = isInv c := by
  rw [hb]
  refine (Bool.eq_false_iff.mpr fun h => ?_).symm
  rcases (inv_iff c).mp h with h | h | h | h | h | h | h <;> first | lia | exact h6 h
theorem inv_mod {c : Nat} {b : Bool} (h : ([65534, 65535].any fun x : Int => x == (c : Int).fmod 65536) = b) : b = true ↔ (c % 65536 = 65534 ∨ c % 65536 = 65535) := by
  rw [← h, Int.fmod_eq_emod_of_nonneg _ (show (0 : Int) ≤ 65536 by decide)]
  simp only [List.any_cons, List.any_nil, Bool.or_false, Bool.or_eq_true, beq_iff_eq]
  lia
theorem cut_if {v : Option Value} {c : Str} {u : Option Value} {f : Str → Option Value} : (fun y => if y = c then v else (fun y => if y = c then u else f y) y) = fun y => if y = c then v else f y := by
  funext y
  by_cases h : y = c
  · rw [if_pos h, if_pos h]
  · rw [if_neg h, if_neg h]; exact if_neg h
theorem eq_yes {prog : Program} {w : World} {A : Around} {E : Value → Shared → Prop} {s : Shared} {l b : List Nat} {t u : Tok} {Q : Value → Shared → Prop} (e : l = b) (h : Q (.bool true) s) : wpAny (model prog w) A (compareOp .Eq (.str (S l) t) (.str (S b) u)) Q E s := eq_S (by rw [decide_eq_true e]; exact h)
theorem ne_tup2_no {prog : Program} {w : World} {A : Around} {E : Value → Shared → Prop} {s : Shared} {h₀ : Heap} {L D D' : Addr} {news : List (Addr × Obj)} {Q : Value → Shared → Prop} {a b a' b' : Int} {t u t' u' : Tok} {n n' : Nat} (N : News h₀ L s.heap news) (ha : (D, ({ cls := .type "tuple", data := .seq #[.int a t, .int b u] n } : Obj)) ∈ news) (hb : (D', ({ cls := .type "tuple", data := .seq #[.int a' t', .int b' u'] n' } : Obj)) ∈ news)
    (hu : A.units + 64 < cLine) (e1 : a = a') (e2 : b = b') (h : Q (.bool false) s) : wpAny (model prog w) A (compareOp .NotEq (.ref D) (.ref D')) Q E s :=
  ne_tup2 N ha hb hu (by rw [decide_eq_false (fun g => g ⟨e1, e2⟩)]; exact h)
theorem eq_tup2_yes {prog : Program} {w : World} {A : Around} {E : Value → Shared → Prop} {s : Shared} {h₀ : Heap} {L D D' : Addr} {news : List (Addr × Obj)} {Q : Value → Shared → Prop} {a b a' b' : Int} {t u t' u' : Tok} {n n' : Nat} (N : News h₀ L s.heap news) (ha : (D, ({ cls := .type "tuple", data := .seq #[.int a t, .int b u] n } : Obj)) ∈ news) (hb : (D', ({ cls := .type "tuple", data := .seq #[.int a' t', .int b' u'] n' } : Obj)) ∈ news)
    (hu : A.units + 64 < cLine) (e1 : a = a') (e2 : b = b') (h : Q (.bool true) s) : wpAny (model prog w) A (compareOp .Eq (.ref D) (.ref D')) Q E s :=
  eq_tup2 N ha hb hu (by rw [decide_eq_true ⟨e1, e2⟩]; exact h)
theorem ne_no {prog : Program} {w : World} {A : Around} {E : Value → Shared → Prop} {s : Shared} {l b : List Nat} {t u : Tok} {Q : Value → Shared → Prop} (e : l = b) (h : Q (.bool false) s) : wpAny (model prog w) A (compareOp .NotEq (.str (S l) t) (.str (S b) u)) Q E s := ne_S (by rw [decide_eq_false (fun g => g e)]; exact h)
noncomputable abbrev loose : List Str := looseW hd04.view_39 [Str.ofString "HTMLUnicodeInputStream", Str.ofString "_law_SIGNS"]
def fillT : Prop := ∀ (P : Params), PySem.Challenge.rw_te0074_04.name = PySem.Challenge.rw_te0074_04.name ∧ hd04.heap_39 P = hd04.heap_39 P
def Spec (w : World) (mean : ExcName → Option Value) (mg mb : Str → Option Value) (f : Addr) (vs : List Value) (dd uu : Nat) (news : List (Addr × Obj)) (R : Value → List (Addr × Obj) → Prop) : Prop :=
  ∀ (dp un : Nat) (gd : Option (List Code)) (cn : Str) (cs : Scope) (a : Addr) (ccd : Value) (cl : List (Str × Addr)) (outer : List Env) (A₀ : Around) (base h₀ : Heap) (L : Addr) (m : Str → Option Value) (s : Shared) (Q E : Value → Shared → Prop),
    Below A₀ base outer h₀ → Fr h₀ L s.heap m → (hd04.heap_39 w.params).In h₀ → News h₀ L s.heap news → Top hd04.view_39 loose mean mg mb h₀ → cs.kind = .function →
    dp + dd < recursionLimit → un + uu < cLine →
    (∀ r news' h' tk', R r news' → s.toks ≤ tk' → Fr h₀ L h' m → News h₀ L h' news' → Q r { s with heap := h', toks := tk' }) →
      codeAny (model PySem.Challenge.pw_te0074_04 w) (ktrTop dp un gd cn cs L a ccd cl outer) (.call (.ref f) ⟨vs, []⟩) (fun r s' => match r with | .ok (.ret v) => Q v s' | .ok _ => False | .error e => E e s') s

section
variable {w : World} {mean : ExcName → Option Value} {mg mb : Str → Option Value}
/-- a walk that keeps no count of the tokens gives a contract all the same -/
theorem Spec.of {f : Addr} {vs : List Value} {dd uu : Nat} {news : List (Addr × Obj)} {R : Value → List (Addr × Obj) → Prop}
    (h : ∀ (dp un : Nat) (gd : Option (List Code)) (cn : Str) (cs : Scope) (a : Addr) (ccd : Value) (cl : List (Str × Addr)) (outer : List Env) (A₀ : Around) (base h₀ : Heap) (L : Addr) (m : Str → Option Value) (s : Shared) (Q E : Value → Shared → Prop),
      Below A₀ base outer h₀ → Fr h₀ L s.heap m → (hd04.heap_39 w.params).In h₀ → News h₀ L s.heap news → Top hd04.view_39 loose mean mg mb h₀ → cs.kind = .function →
      dp + dd < recursionLimit → un + uu < cLine →
      (∀ r news' h' tk', R r news' → Fr h₀ L h' m → News h₀ L h' news' → Q r { s with heap := h', toks := tk' }) →
        codeAny (model PySem.Challenge.pw_te0074_04 w) (ktrTop dp un gd cn cs L a ccd cl outer) (.call (.ref f) ⟨vs, []⟩) (fun r s' => match r with | .ok (.ret v) => Q v s' | .ok _ => False | .error e => E e s') s) : Spec w mean mg mb f vs dd uu news R := by
  intro dp un gd cn cs a ccd cl outer A₀ base h₀ L m s Q E B F X N T hk hd hu hret
  refine codeAny_with_toks (Nat.le_refl _) (codeAny_mono (h dp un gd cn cs a ccd cl outer A₀ base h₀ L m s (fun v s' => s.toks ≤ s'.toks → Q v s') (fun e s' => s.toks ≤ s'.toks → E e s') B F X N T hk hd hu fun r news' h' tk' hR F' N' hle => hret r news' h' tk' hR hle F' N') fun r s' hr hle => ?_)
  cases r with
  | error e => exact hr hle
  | ok fl => cases fl <;> first | exact hr hle | exact hr

theorem Spec.useC {f : Addr} {vs : List Value} {dd uu : Nat} {news : List (Addr × Obj)} {R : Value → List (Addr × Obj) → Prop}
    {dp un : Nat} {gd : Option (List Code)} {cn : Str} {cs : Scope} {a : Addr} {ccd : Value} {cl : List (Str × Addr)} {outer : List Env} {A₀ : Around} {base h₀ : Heap} {L : Addr} {m : Str → Option Value} {s : Shared} {Q E : Value → Shared → Prop}
    (H : Spec w mean mg mb f vs dd uu news R) (B : Below A₀ base outer h₀) (F : Fr h₀ L s.heap m) (X : (hd04.heap_39 w.params).In h₀) (N : News h₀ L s.heap news) (T : Top hd04.view_39 loose mean mg mb h₀) (hk : cs.kind = .function)
    (hd : dp + dd < recursionLimit) (hu : un + uu < cLine)
    (k : ∀ r news' h' tk', R r news' → s.toks ≤ tk' → Fr h₀ L h' m → News h₀ L h' news' → Q r { s with heap := h', toks := tk' }) :
    codeAny (model PySem.Challenge.pw_te0074_04 w) (ktrTop dp un gd cn cs L a ccd cl outer) (.call (.ref f) ⟨vs, []⟩) (fun r s' => match r with | .ok (.ret v) => Q v s' | .ok _ => False | .error e => E e s') s :=
  H dp un gd cn cs a ccd cl outer A₀ base h₀ L m s Q E B F X N T hk hd hu k
theorem Spec.use {f : Addr} {vs : List Value} {dd uu : Nat} {news : List (Addr × Obj)} {R : Value → List (Addr × Obj) → Prop}
    {dp un : Nat} {gd : Option (List Code)} {cn : Str} {cs : Scope} {a : Addr} {ccd : Value} {cl : List (Str × Addr)} {outer : List Env} {A₀ : Around} {base h₀ : Heap} {L : Addr} {m : Str → Option Value} {s : Shared} {Q E : Value → Shared → Prop}
    (H : Spec w mean mg mb f vs dd uu news R) (B : Below A₀ base outer h₀) (F : Fr h₀ L s.heap m) (X : (hd04.heap_39 w.params).In h₀) (N : News h₀ L s.heap news) (T : Top hd04.view_39 loose mean mg mb h₀) (hk : cs.kind = .function)
    (hd : dp + dd < recursionLimit) (hu : un + uu < cLine)
    (k : ∀ r news' h' tk', R r news' → s.toks ≤ tk' → Fr h₀ L h' m → News h₀ L h' news' → Q r { s with heap := h', toks := tk' }) :
    wpAny (model PySem.Challenge.pw_te0074_04 w) (ktrTop dp un gd cn cs L a ccd cl outer) (call (.ref f) vs) Q E s :=
  wpAny_call (Spec.useC H B F X N T hk hd hu k)
theorem Spec.useM {f q : Addr} {self : Value} {vs : List Value} {dd uu : Nat} {news news0 : List (Addr × Obj)} {R : Value → List (Addr × Obj) → Prop}
    {dp un : Nat} {gd : Option (List Code)} {cn : Str} {cs : Scope} {a : Addr} {ccd : Value} {cl : List (Str × Addr)} {outer : List Env} {A₀ : Around} {base h₀ : Heap} {L : Addr} {m : Str → Option Value} {s : Shared} {Q E : Value → Shared → Prop}
    (N0 : News h₀ L s.heap news0) (hq : (q, methodObj (.ref f) self) ∈ news0)
    (H : Spec w mean mg mb f (self :: vs) dd uu news R) (B : Below A₀ base outer h₀) (F : Fr h₀ L s.heap m) (X : (hd04.heap_39 w.params).In h₀) (N : News h₀ L s.heap news) (T : Top hd04.view_39 loose mean mg mb h₀) (hk : cs.kind = .function)
    (hd : dp + dd < recursionLimit) (hu : un + uu < cLine)
    (k : ∀ r news' h' tk', R r news' → s.toks ≤ tk' → Fr h₀ L h' m → News h₀ L h' news' → Q r { s with heap := h', toks := tk' }) :
    wpAny (model PySem.Challenge.pw_te0074_04 w) (ktrTop dp un gd cn cs L a ccd cl outer) (call (.ref q) vs) Q E s := by
  refine call_meth N0 hq (codeAny_mono (Spec.useC (E := E) H B F X N T hk hd hu k) fun r s' h => ?_)
  cases r with
  | error e => exact h
  | ok fl => cases fl <;> exact h
end

theorem News.tl {h₀ h : Heap} {L : Addr} {p : Addr × Obj} {l : List (Addr × Obj)} (N : News h₀ L h (p :: l)) : News h₀ L h l := fun q hq => N q (.tail _ hq)

theorem News.dr {h₀ h : Heap} {L : Addr} {p r : Addr × Obj} {l : List (Addr × Obj)} (N : News h₀ L h (p :: r :: l)) : News h₀ L h (p :: l) := fun q hq => by
  rcases List.mem_cons.mp hq with rfl | hq
  · exact N _ (.head _)
  · exact N _ (.tail _ (.tail _ hq))
abbrev tup (vs : List Value) : Obj := { cls := .type "tuple", data := .seq vs.toArray }
abbrev sInv : Str := Str.ofString "invalid-codepoint"
inductive BufIs : Value → Option Nat → Prop
  | none : BufIs .none none
  | some {b : Nat} {t : Tok} : BufIs (.str (S [b]) t) (some b)

theorem mem_mid {α : Type} {p t : α} {a r : List α} : p ∈ a ++ t :: r ↔ p = t ∨ p ∈ a ++ r := by
  rw [List.mem_append, List.mem_append, List.mem_cons, or_left_comm]
/-- the stream at x, over the text R; rest: what else stands -/
inductive LedR (w : World) (R : List Nat) (rest : List (Addr × Obj)) : List Nat → Nat → List Nat → Int → Int → Nat → Int → Int → Option Nat → Int → List (Addr × Obj) → Prop
  | mk {d x q nl dT xT e : Nat} {ck : List Nat} {sz of : Int} {er : Nat} {pl pc : Int} {bf : Option Nat} {pla : Int} {ev : List Value} {ep : Nat} {t0 t1 t2 t3 t4 t5 t6 t7 t8 t9 tB tC u0 u1 u2 u3 u4 u5 u6 u7 : Tok} {bv : Value}
      (hA : d < x ∧ x < q ∧ q < nl ∧ nl < dT ∧ dT < xT ∧ xT < e) (hO : OwnOff rest [e, xT, dT, nl, q, x, d]) (h1 : StrsAre ev (List.replicate er sInv)) (h9 : BufIs bv bf) :
      LedR w R rest [e, xT, dT, nl, q, x, d] x ck sz of er pl pc bf pla ((e, W.listOf ev.toArray ep) :: (xT, instObj 38 dT) :: (dT, dictOf [
          { hash := PyData.keyHash w.params (Str.ofString "text"), key := .str (Str.ofString "text") tB, val := .str (S R) u0 },
          { hash := PyData.keyHash w.params (Str.ofString "place"), key := .str (Str.ofString "place") tC, val := .int pla u1 }] 2) ::
        (nl, W.listOf #[.int 0 u2] 0) :: (q, methodObj (.ref 113) (.ref x)) :: (x, instObj 131 d) :: (d, dictOf [
          { hash := PyData.keyHash w.params (Str.ofString "reportCharacterErrors"), key := .str (Str.ofString "reportCharacterErrors") t0, val := .ref q },
          { hash := PyData.keyHash w.params (Str.ofString "newLines"), key := .str (Str.ofString "newLines") t1, val := .ref nl },
          { hash := PyData.keyHash w.params (Str.ofString "dataStream"), key := .str (Str.ofString "dataStream") t2, val := .ref xT },
          { hash := PyData.keyHash w.params (Str.ofString "chunk"), key := .str (Str.ofString "chunk") t3, val := .str (S ck) u3 },
          { hash := PyData.keyHash w.params (Str.ofString "chunkSize"), key := .str (Str.ofString "chunkSize") t4, val := .int sz u4 },
          { hash := PyData.keyHash w.params (Str.ofString "chunkOffset"), key := .str (Str.ofString "chunkOffset") t5, val := .int of u5 },
          { hash := PyData.keyHash w.params (Str.ofString "errors"), key := .str (Str.ofString "errors") t6, val := .ref e },
          { hash := PyData.keyHash w.params (Str.ofString "prevNumLines"), key := .str (Str.ofString "prevNumLines") t7, val := .int pl u6 },
          { hash := PyData.keyHash w.params (Str.ofString "prevNumCols"), key := .str (Str.ofString "prevNumCols") t8, val := .int pc u7 },
          { hash := PyData.keyHash w.params (Str.ofString "_bufferedCharacter"), key := .str (Str.ofString "_bufferedCharacter") t9, val := bv }] 10) :: rest)
/-- the same, its state in one -/
abbrev LedIs (w : World) (R : List Nat) (rest : List (Addr × Obj)) (ad : List Nat) (x : Nat) (st : St) (news : List (Addr × Obj)) : Prop :=
  LedR w R rest ad x st.chunk (st.chunk.length : Int) (st.off : Int) st.errs (st.pl : Int) (st.pc : Int) st.buf (st.place : Int) news

/-- a place: a tuple of two ints, made anew -/
def PosIs (v : Value) (n news : List (Addr × Obj)) (p : Nat × Nat) : Prop :=
  ∃ (D : Nat) (a b : Int) (t1 t2 : Tok), v = .ref D ∧ (∀ q ∈ news, q.1 < D) ∧ n = (D, tup [.int a t1, .int b t2]) :: news ∧ a = p.1 ∧ b = p.2

section
variable {w : World} {mean : ExcName → Option Value} {mg mb : Str → Option Value} {f : Addr} {vs : List Value} {dd uu : Nat} {news : List (Addr × Obj)} {dp un : Nat} {gd : Option (List Code)} {cn : Str} {cs : Scope} {a : Addr} {ccd : Value} {cl : List (Str × Addr)} {outer : List Env} {A₀ : Around} {base h₀ : Heap} {L : Addr} {m : Str → Option Value} {s : Shared} {Q E : Value → Shared → Prop}
theorem Spec.useV {c : Value} {P : List (Addr × Obj) → Prop}
    (H : Spec w mean mg mb f vs dd uu news (fun v n => v = c ∧ P n)) (B : Below A₀ base outer h₀) (F : Fr h₀ L s.heap m) (X : (hd04.heap_39 w.params).In h₀) (N : News h₀ L s.heap news) (T : Top hd04.view_39 loose mean mg mb h₀) (hk : cs.kind = .function) (hd : dp + dd < recursionLimit) (hu : un + uu < cLine)
    (k : ∀ n' h' tk', P n' → s.toks ≤ tk' → Fr h₀ L h' m → News h₀ L h' n' → Q c { s with heap := h', toks := tk' }) :
    wpAny (model PySem.Challenge.pw_te0074_04 w) (ktrTop dp un gd cn cs L a ccd cl outer) (call (.ref f) vs) Q E s :=
  Spec.use H B F X N T hk hd hu fun _ _ h' tk' hR hle F' N' => by
    obtain ⟨rfl, hP⟩ := hR
    exact k _ h' tk' hP hle F' N'
theorem Spec.useS {c : Str} {P : List (Addr × Obj) → Prop}
    (H : Spec w mean mg mb f vs dd uu news (fun v n => (∃ t, v = .str c t) ∧ P n)) (B : Below A₀ base outer h₀) (F : Fr h₀ L s.heap m) (X : (hd04.heap_39 w.params).In h₀) (N : News h₀ L s.heap news) (T : Top hd04.view_39 loose mean mg mb h₀) (hk : cs.kind = .function) (hd : dp + dd < recursionLimit) (hu : un + uu < cLine)
    (k : ∀ t n' h' tk', P n' → s.toks ≤ tk' → Fr h₀ L h' m → News h₀ L h' n' → Q (.str c t) { s with heap := h', toks := tk' }) :
    wpAny (model PySem.Challenge.pw_te0074_04 w) (ktrTop dp un gd cn cs L a ccd cl outer) (call (.ref f) vs) Q E s :=
  Spec.use H B F X N T hk hd hu fun _ _ h' tk' hR hle F' N' => by
    obtain ⟨⟨t, rfl⟩, hP⟩ := hR
    exact k t _ h' tk' hP hle F' N'
theorem Spec.useK {c : Value} {nw : List (Addr × Obj)}
    (H : Spec w mean mg mb f vs dd uu news (fun v n => v = c ∧ n = nw)) (B : Below A₀ base outer h₀) (F : Fr h₀ L s.heap m) (X : (hd04.heap_39 w.params).In h₀) (N : News h₀ L s.heap news) (T : Top hd04.view_39 loose mean mg mb h₀) (hk : cs.kind = .function) (hd : dp + dd < recursionLimit) (hu : un + uu < cLine)
    (k : ∀ h' tk', s.toks ≤ tk' → Fr h₀ L h' m → News h₀ L h' nw → Q c { s with heap := h', toks := tk' }) :
    wpAny (model PySem.Challenge.pw_te0074_04 w) (ktrTop dp un gd cn cs L a ccd cl outer) (call (.ref f) vs) Q E s :=
  Spec.use H B F X N T hk hd hu fun _ _ h' tk' hR hle F' N' => by
    obtain ⟨rfl, rfl⟩ := hR
    exact k h' tk' hle F' N'
theorem Spec.useI {c : Int} {nw : List (Addr × Obj)}
    (H : Spec w mean mg mb f vs dd uu news (fun v n => (∃ t, v = .int c t) ∧ n = nw)) (B : Below A₀ base outer h₀) (F : Fr h₀ L s.heap m) (X : (hd04.heap_39 w.params).In h₀) (N : News h₀ L s.heap news) (T : Top hd04.view_39 loose mean mg mb h₀) (hk : cs.kind = .function) (hd : dp + dd < recursionLimit) (hu : un + uu < cLine)
    (k : ∀ t h' tk', s.toks ≤ tk' → Fr h₀ L h' m → News h₀ L h' nw → Q (.int c t) { s with heap := h', toks := tk' }) :
    wpAny (model PySem.Challenge.pw_te0074_04 w) (ktrTop dp un gd cn cs L a ccd cl outer) (call (.ref f) vs) Q E s :=
  Spec.use H B F X N T hk hd hu fun _ _ h' tk' hR hle F' N' => by
    obtain ⟨⟨t, rfl⟩, rfl⟩ := hR
    exact k t h' tk' hle F' N'
theorem Spec.mono {R R' : Value → List (Addr × Obj) → Prop} (H : Spec w mean mg mb f vs dd uu news R) (h : ∀ v n, R v n → R' v n) : Spec w mean mg mb f vs dd uu news R' :=
  fun dp un gd cn cs a ccd cl outer A₀ base h₀ L m s Q E B F X N T hk hd hu k => H dp un gd cn cs a ccd cl outer A₀ base h₀ L m s Q E B F X N T hk hd hu fun r n' h' tk' hR => k r n' h' tk' (h r n' hR)
end
section
variable {w : World} {mean : ExcName → Option Value} {mg mb : Str → Option Value} {f : Addr} {vs : List Value} {dd uu : Nat} {news : List (Addr × Obj)} {dp un : Nat} {gd : Option (List Code)} {cn : Str} {cs : Scope} {a : Addr} {ccd : Value} {cl : List (Str × Addr)} {outer : List Env} {A₀ : Around} {base h₀ : Heap} {L : Addr} {m : Str → Option Value} {s : Shared} {Q E : Value → Shared → Prop}
theorem Spec.usePos {p p' : Nat × Nat}
    (H : Spec w mean mg mb f vs dd uu news (fun v n => PosIs v n news p')) (e : p' = p) (B : Below A₀ base outer h₀) (F : Fr h₀ L s.heap m) (X : (hd04.heap_39 w.params).In h₀) (N : News h₀ L s.heap news) (T : Top hd04.view_39 loose mean mg mb h₀) (hk : cs.kind = .function) (hd : dp + dd < recursionLimit) (hu : un + uu < cLine)
    (k : ∀ D t1 t2 h' tk', (∀ q ∈ news, q.1 < D) → s.toks ≤ tk' → Fr h₀ L h' m → News h₀ L h' ((D, tup [.int (p.1 : Nat) t1, .int (p.2 : Nat) t2]) :: news) → Q (.ref D) { s with heap := h', toks := tk' }) :
    wpAny (model PySem.Challenge.pw_te0074_04 w) (ktrTop dp un gd cn cs L a ccd cl outer) (call (.ref f) vs) Q E s :=
  by
    subst e
    exact Spec.use H B F X N T hk hd hu fun _ _ h' tk' hR hle F' N' => by
      obtain ⟨D, _, _, t1, t2, rfl, hlt, rfl, rfl, rfl⟩ := hR
      exact k D t1 t2 h' tk' hlt hle F' N'
end
section
variable {w : World} {R : List Nat} {rest : List (Addr × Obj)} {ad : List Nat} {x : Nat} {ck : List Nat} {sz of : Int} {er : Nat} {pl pc : Int} {bf : Option Nat} {pla : Int} {news own : List (Addr × Obj)}
theorem LedR.eq {ck' : List Nat} {sz' of' : Int} {er' : Nat} {pl' pc' : Int} {bf' : Option Nat} {pla' : Int} (h : LedR w R rest ad x ck sz of er pl pc bf pla news) (h1 : ck = ck') (h2 : sz = sz') (h3 : of = of') (h4 : er = er') (h5 : pl = pl') (h6 : pc = pc') (h7 : bf = bf') (h8 : pla = pla') :
    LedR w R rest ad x ck' sz' of' er' pl' pc' bf' pla' news := by
  subst h1 h2 h3 h4 h5 h6 h7 h8; exact h
theorem LedR.addr (h : LedR w R rest ad x ck sz of er pl pc bf pla news) : news.map (·.1) = ad ++ rest.map (·.1) := by
  cases h; rfl
theorem LedR.part (h : LedR w R (rest ++ own) ad x ck sz of er pl pc bf pla news) : ∃ nx, LedR w R rest ad x ck sz of er pl pc bf pla nx ∧ news = nx ++ own := by
  obtain ⟨hA, hO, h1, h9⟩ := h
  exact ⟨_, .mk hA (fun p hp => hO p (List.mem_append.mpr (.inl hp))) h1 h9, rfl⟩
theorem LedR.app (h : LedR w R rest ad x ck sz of er pl pc bf pla news) (ho : OwnOff own ad) : LedR w R (rest ++ own) ad x ck sz of er pl pc bf pla (news ++ own) := by
  obtain ⟨hA, hO, h1, h9⟩ := h
  exact .mk hA (fun p hp => (List.mem_append.mp hp).elim (hO p) (ho p)) h1 h9
theorem LedR.off (h : LedR w R rest ad x ck sz of er pl pc bf pla news) : OwnOff rest ad := by
  cases h; assumption
theorem LedR.mem_rest {p : Addr × Obj} (h : LedR w R rest ad x ck sz of er pl pc bf pla news) (hp : p ∈ rest) : p ∈ news := by
  obtain ⟨n7, _, rfl⟩ := LedR.part (rest := []) h
  exact List.mem_append.mpr (.inr hp)
/-- a new object joins what else stands -/
theorem LedR.push {h₀ g : Heap} {L : Addr} {D : Nat} {o : Obj} (h : LedR w R rest ad x ck sz of er pl pc bf pla news) (hl : ∀ p ∈ news, p.1 < D) (N : News h₀ L g ((D, o) :: news)) :
    ∃ n2, LedR w R ((D, o) :: rest) ad x ck sz of er pl pc bf pla n2 ∧ News h₀ L g n2 ∧ ∀ p ∈ n2, p = (D, o) ∨ p ∈ news := by
  have ha := h.addr
  have hD : ∀ b ∈ ad, b < D := fun b hb => by
    have : b ∈ news.map (·.1) := by rw [ha]; exact List.mem_append.mpr (.inl hb)
    obtain ⟨p, hp, rfl⟩ := List.mem_map.mp this
    exact hl p hp
  have hO := h.off
  obtain ⟨n7, h7, rfl⟩ := LedR.part (rest := []) h
  refine ⟨n7 ++ (D, o) :: rest, LedR.app (rest := []) h7 (fun p hp b hb => ?_), fun p hp => N p (List.mem_cons.mpr (mem_mid.mp hp)), fun p hp => mem_mid.mp hp⟩
  rcases List.mem_cons.mp hp with rfl | hp
  · exact Nat.ne_of_gt (hD b hb)
  · exact hO p hp b hb
theorem LedR.pop {p : Addr × Obj} (h : LedR w R (p :: rest) ad x ck sz of er pl pc bf pla news) : ∃ n2, LedR w R rest ad x ck sz of er pl pc bf pla n2 ∧ ∀ q ∈ n2, q ∈ news := by
  have hO := h.off
  obtain ⟨n7, h7, rfl⟩ := LedR.part (rest := []) h
  exact ⟨n7 ++ rest, LedR.app (rest := []) h7 (fun q hq => hO q (.tail _ hq)), fun q hq => mem_mid.mpr (.inr hq)⟩
theorem News.sub {h₀ g : Heap} {L : Addr} {n n' : List (Addr × Obj)} (N : News h₀ L g n) (h : ∀ q ∈ n', q ∈ n) : News h₀ L g n' := fun q hq => N q (h q hq)
theorem led_end {h₀ h' : Heap} {L : Addr} {m' : Str → Option Value} {J : (Str → Option Value) → List (Addr × Obj) → Prop} {adr : List Addr} {s₁ : Shared} {tk : Nat} (F : Fr h₀ L h' m') (N : News h₀ L h' news) (hL : LedR w R (rest ++ own) ad x ck sz of er pl pc bf pla news)
    (ha : ad ++ rest.map (·.1) = adr) (hj : ∀ nx, LedR w R rest ad x ck sz of er pl pc bf pla nx → J m' nx) : InvEndN h₀ L J own adr s₁ { s₁ with heap := h', toks := tk } := by
  obtain ⟨nx, h1, rfl⟩ := hL.part
  exact InvEndN.intro F N (hj nx h1) (h1.addr.trans ha) (fun p hp => List.mem_append.mpr (.inl hp)) (fun p hp => List.mem_append.mpr (.inr hp))
end
set_option maxRecDepth 100000 in
example : fillT := by
  unfold fillT
  k_fill
  exact fun _ => ⟨rfl, rfl⟩
theorem apart7 {d x q nl dT xT e : Nat} {rest : List (Addr × Obj)} (hA : d < x ∧ x < q ∧ q < nl ∧ nl < dT ∧ dT < xT ∧ xT < e) (hO : OwnOff rest [e, xT, dT, nl, q, x, d]) :
    e ≠ d ∧ xT ≠ d ∧ dT ≠ d ∧ nl ≠ d ∧ q ≠ d ∧ x ≠ d ∧ (∀ p ∈ rest, p.1 ≠ d) := by
  obtain ⟨h2, h3, h4, h5, h6, h7⟩ := hA
  have h3 := Nat.lt_trans h2 h3
  have h4 := Nat.lt_trans h3 h4
  have h5 := Nat.lt_trans h4 h5
  have h6 := Nat.lt_trans h5 h6
  have h7 := Nat.lt_trans h6 h7
  exact ⟨Nat.ne_of_gt h7, Nat.ne_of_gt h6, Nat.ne_of_gt h5, Nat.ne_of_gt h4, Nat.ne_of_gt h3, Nat.ne_of_gt h2, fun p hp => hO p hp d (by simp)⟩
section
variable {w : World} {mean : ExcName → Option Value} {mg mb : Str → Option Value} {R : List Nat} {rest : List (Addr × Obj)} {ad : List Nat} {x : Nat} {ck : List Nat} {sz of : Int} {er : Nat} {pl pc : Int} {bf : Option Nat} {pla : Int} {news : List (Addr × Obj)}
  {A : Around} {E : Value → Shared → Prop} {s : Shared} {h₀ : Heap} {L : Addr} {m : Str → Option Value} {xT : Nat}
theorem g_chunk {Q : Value → Shared → Prop} {ex : Bool} (hL : LedR w R rest ad x ck sz of er pl pc bf pla news) (F : Fr h₀ L s.heap m) (X : (hd04.heap_39 w.params).In h₀) (N : News h₀ L s.heap news) (h : ∀ u, Q (.str (S ck) u) { s with toks := s.toks + 1 }) :
    wpAny (model PySem.Challenge.pw_te0074_04 w) A (getAttr (.ref x) (Str.ofString "chunk") ex) Q E s := by
  obtain ⟨hA, hO, h1, h9⟩ := hL
  walk1
  exact h _
theorem g_size {Q : Value → Shared → Prop} {ex : Bool} (hL : LedR w R rest ad x ck sz of er pl pc bf pla news) (F : Fr h₀ L s.heap m) (X : (hd04.heap_39 w.params).In h₀) (N : News h₀ L s.heap news) (h : ∀ u, Q (.int sz u) { s with toks := s.toks + 1 }) :
    wpAny (model PySem.Challenge.pw_te0074_04 w) A (getAttr (.ref x) (Str.ofString "chunkSize") ex) Q E s := by
  obtain ⟨hA, hO, h1, h9⟩ := hL
  walk1
  exact h _
theorem g_off {Q : Value → Shared → Prop} {ex : Bool} (hL : LedR w R rest ad x ck sz of er pl pc bf pla news) (F : Fr h₀ L s.heap m) (X : (hd04.heap_39 w.params).In h₀) (N : News h₀ L s.heap news) (h : ∀ u, Q (.int of u) { s with toks := s.toks + 1 }) :
    wpAny (model PySem.Challenge.pw_te0074_04 w) A (getAttr (.ref x) (Str.ofString "chunkOffset") ex) Q E s := by
  obtain ⟨hA, hO, h1, h9⟩ := hL
  walk1
  exact h _
theorem g_pl {Q : Value → Shared → Prop} {ex : Bool} (hL : LedR w R rest ad x ck sz of er pl pc bf pla news) (F : Fr h₀ L s.heap m) (X : (hd04.heap_39 w.params).In h₀) (N : News h₀ L s.heap news) (h : ∀ u, Q (.int pl u) { s with toks := s.toks + 1 }) :
    wpAny (model PySem.Challenge.pw_te0074_04 w) A (getAttr (.ref x) (Str.ofString "prevNumLines") ex) Q E s := by
  obtain ⟨hA, hO, h1, h9⟩ := hL
  walk1
  exact h _
theorem g_pc {Q : Value → Shared → Prop} {ex : Bool} (hL : LedR w R rest ad x ck sz of er pl pc bf pla news) (F : Fr h₀ L s.heap m) (X : (hd04.heap_39 w.params).In h₀) (N : News h₀ L s.heap news) (h : ∀ u, Q (.int pc u) { s with toks := s.toks + 1 }) :
    wpAny (model PySem.Challenge.pw_te0074_04 w) A (getAttr (.ref x) (Str.ofString "prevNumCols") ex) Q E s := by
  obtain ⟨hA, hO, h1, h9⟩ := hL
  walk1
  exact h _
theorem g_errors {Q : Value → Shared → Prop} {ex : Bool} (hL : LedR w R rest ad x ck sz of er pl pc bf pla news) (F : Fr h₀ L s.heap m) (X : (hd04.heap_39 w.params).In h₀) (N : News h₀ L s.heap news) (h : ∀ e, ad[0]? = some e → Q (.ref e) { s with toks := s.toks + 1 }) :
    wpAny (model PySem.Challenge.pw_te0074_04 w) A (getAttr (.ref x) (Str.ofString "errors") ex) Q E s := by
  obtain ⟨hA, hO, h1, h9⟩ := hL
  walk1
  exact h _ rfl
theorem g_stream {Q : Value → Shared → Prop} {ex : Bool} (hL : LedR w R rest ad x ck sz of er pl pc bf pla news) (F : Fr h₀ L s.heap m) (X : (hd04.heap_39 w.params).In h₀) (N : News h₀ L s.heap news) (h : ∀ xT, ad[1]? = some xT → Q (.ref xT) { s with toks := s.toks + 1 }) :
    wpAny (model PySem.Challenge.pw_te0074_04 w) A (getAttr (.ref x) (Str.ofString "dataStream") ex) Q E s := by
  obtain ⟨hA, hO, h1, h9⟩ := hL
  walk1
  exact h _ rfl
theorem g_buf {Q : Value → Shared → Prop} {ex : Bool} (hL : LedR w R rest ad x ck sz of er pl pc bf pla news) (F : Fr h₀ L s.heap m) (X : (hd04.heap_39 w.params).In h₀) (N : News h₀ L s.heap news) (h : ∀ v, BufIs v bf → Q v { s with toks := s.toks + 1 }) :
    wpAny (model PySem.Challenge.pw_te0074_04 w) A (getAttr (.ref x) (Str.ofString "_bufferedCharacter") ex) Q E s := by
  obtain ⟨hA, hO, h1, h9⟩ := hL
  cases h9 <;> walk1
  · exact h _ .none
  · exact h _ .some
theorem g_rep {Q : Value → Shared → Prop} {ex : Bool} (hL : LedR w R rest ad x ck sz of er pl pc bf pla news) (F : Fr h₀ L s.heap m) (X : (hd04.heap_39 w.params).In h₀) (N : News h₀ L s.heap news) (h : ∀ q, (q, methodObj (.ref 113) (.ref x)) ∈ news → Q (.ref q) { s with toks := s.toks + 1 }) :
    wpAny (model PySem.Challenge.pw_te0074_04 w) A (getAttr (.ref x) (Str.ofString "reportCharacterErrors") ex) Q E s := by
  obtain ⟨hA, hO, h1, h9⟩ := hL
  walk1
  exact h _ (.tail _ (.tail _ (.tail _ (.tail _ (.head _)))))
theorem g_dflt {Q : Value → Shared → Prop} {ex : Bool} (hL : LedR w R rest ad x ck sz of er pl pc bf pla news) (F : Fr h₀ L s.heap m) (X : (hd04.heap_39 w.params).In h₀) (N : News h₀ L s.heap news) (h : ∀ u, Q (.int 10240 u) { s with toks := s.toks + 1 }) :
    wpAny (model PySem.Challenge.pw_te0074_04 w) A (getAttr (.ref x) (Str.ofString "_defaultChunkSize") ex) Q E s := by
  obtain ⟨hA, hO, h1, h9⟩ := hL
  walk1
  exact h _
theorem g_text {Q : Value → Shared → Prop} {ex : Bool} (hL : LedR w R rest ad x ck sz of er pl pc bf pla news) (hT : ad[1]? = some xT) (F : Fr h₀ L s.heap m) (X : (hd04.heap_39 w.params).In h₀) (N : News h₀ L s.heap news) (h : ∀ u, Q (.str (S R) u) { s with toks := s.toks + 1 }) :
    wpAny (model PySem.Challenge.pw_te0074_04 w) A (getAttr (.ref xT) (Str.ofString "text") ex) Q E s := by
  obtain ⟨hA, hO, h1, h9⟩ := hL
  obtain rfl := Option.some.inj hT
  walk1
  exact h _
theorem g_place {Q : Value → Shared → Prop} {ex : Bool} (hL : LedR w R rest ad x ck sz of er pl pc bf pla news) (hT : ad[1]? = some xT) (F : Fr h₀ L s.heap m) (X : (hd04.heap_39 w.params).In h₀) (N : News h₀ L s.heap news) (h : ∀ u, Q (.int pla u) { s with toks := s.toks + 1 }) :
    wpAny (model PySem.Challenge.pw_te0074_04 w) A (getAttr (.ref xT) (Str.ofString "place") ex) Q E s := by
  obtain ⟨hA, hO, h1, h9⟩ := hL
  obtain rfl := Option.some.inj hT
  walk1
  exact h _
theorem s_chunk {Q : Unit → Shared → Prop} {c : List Nat} {u : Tok} (hL : LedR w R rest ad x ck sz of er pl pc bf pla news) (F : Fr h₀ L s.heap m) (X : (hd04.heap_39 w.params).In h₀) (N : News h₀ L s.heap news) (h : ∀ h' n', Fr h₀ L h' m → News h₀ L h' n' → LedR w R rest ad x c sz of er pl pc bf pla n' → Q () { s with heap := h', toks := s.toks + 2 }) :
    wpAny (model PySem.Challenge.pw_te0074_04 w) A (setAttr (.ref x) (Str.ofString "chunk") (.str (S c) u)) Q E s := by
  obtain ⟨hA, hO, h1, h9⟩ := hL
  obtain ⟨n1, n2, n3, n4, n5, n6, r1⟩ := apart7 hA hO
  walk1
  exact h _ _ (by assumption) (by assumption) (.mk hA hO h1 h9)
theorem s_size {Q : Unit → Shared → Prop} {c : Int} {u : Tok} (hL : LedR w R rest ad x ck sz of er pl pc bf pla news) (F : Fr h₀ L s.heap m) (X : (hd04.heap_39 w.params).In h₀) (N : News h₀ L s.heap news) (h : ∀ h' n', Fr h₀ L h' m → News h₀ L h' n' → LedR w R rest ad x ck c of er pl pc bf pla n' → Q () { s with heap := h', toks := s.toks + 2 }) :
    wpAny (model PySem.Challenge.pw_te0074_04 w) A (setAttr (.ref x) (Str.ofString "chunkSize") (.int c u)) Q E s := by
  obtain ⟨hA, hO, h1, h9⟩ := hL
  obtain ⟨n1, n2, n3, n4, n5, n6, r1⟩ := apart7 hA hO
  walk1
  exact h _ _ (by assumption) (by assumption) (.mk hA hO h1 h9)
theorem s_off {Q : Unit → Shared → Prop} {c : Int} {u : Tok} (hL : LedR w R rest ad x ck sz of er pl pc bf pla news) (F : Fr h₀ L s.heap m) (X : (hd04.heap_39 w.params).In h₀) (N : News h₀ L s.heap news) (h : ∀ h' n', Fr h₀ L h' m → News h₀ L h' n' → LedR w R rest ad x ck sz c er pl pc bf pla n' → Q () { s with heap := h', toks := s.toks + 2 }) :
    wpAny (model PySem.Challenge.pw_te0074_04 w) A (setAttr (.ref x) (Str.ofString "chunkOffset") (.int c u)) Q E s := by
  obtain ⟨hA, hO, h1, h9⟩ := hL
  obtain ⟨n1, n2, n3, n4, n5, n6, r1⟩ := apart7 hA hO
  walk1
  exact h _ _ (by assumption) (by assumption) (.mk hA hO h1 h9)
theorem s_pl {Q : Unit → Shared → Prop} {c : Int} {u : Tok} (hL : LedR w R rest ad x ck sz of er pl pc bf pla news) (F : Fr h₀ L s.heap m) (X : (hd04.heap_39 w.params).In h₀) (N : News h₀ L s.heap news) (h : ∀ h' n', Fr h₀ L h' m → News h₀ L h' n' → LedR w R rest ad x ck sz of er c pc bf pla n' → Q () { s with heap := h', toks := s.toks + 2 }) :
    wpAny (model PySem.Challenge.pw_te0074_04 w) A (setAttr (.ref x) (Str.ofString "prevNumLines") (.int c u)) Q E s := by
  obtain ⟨hA, hO, h1, h9⟩ := hL
  obtain ⟨n1, n2, n3, n4, n5, n6, r1⟩ := apart7 hA hO
  walk1
  exact h _ _ (by assumption) (by assumption) (.mk hA hO h1 h9)
theorem s_pc {Q : Unit → Shared → Prop} {c : Int} {u : Tok} (hL : LedR w R rest ad x ck sz of er pl pc bf pla news) (F : Fr h₀ L s.heap m) (X : (hd04.heap_39 w.params).In h₀) (N : News h₀ L s.heap news) (h : ∀ h' n', Fr h₀ L h' m → News h₀ L h' n' → LedR w R rest ad x ck sz of er pl c bf pla n' → Q () { s with heap := h', toks := s.toks + 2 }) :
    wpAny (model PySem.Challenge.pw_te0074_04 w) A (setAttr (.ref x) (Str.ofString "prevNumCols") (.int c u)) Q E s := by
  obtain ⟨hA, hO, h1, h9⟩ := hL
  obtain ⟨n1, n2, n3, n4, n5, n6, r1⟩ := apart7 hA hO
  walk1
  exact h _ _ (by assumption) (by assumption) (.mk hA hO h1 h9)
theorem s_chunk0 {Q : Unit → Shared → Prop} {u : Tok} (hL : LedR w R rest ad x ck sz of er pl pc bf pla news) (F : Fr h₀ L s.heap m) (X : (hd04.heap_39 w.params).In h₀) (N : News h₀ L s.heap news) (h : ∀ h' n', Fr h₀ L h' m → News h₀ L h' n' → LedR w R rest ad x [] sz of er pl pc bf pla n' → Q () { s with heap := h', toks := s.toks + 2 }) :
    wpAny (model PySem.Challenge.pw_te0074_04 w) A (setAttr (.ref x) (Str.ofString "chunk") (.str (Str.ofString "") u)) Q E s := by
  rw [of_empty]
  exact s_chunk hL F X N h
theorem s_buf {Q : Unit → Shared → Prop} {v : Value} {b : Option Nat} (hv : BufIs v b) (hL : LedR w R rest ad x ck sz of er pl pc bf pla news) (F : Fr h₀ L s.heap m) (X : (hd04.heap_39 w.params).In h₀) (N : News h₀ L s.heap news) (h : ∀ h' n', Fr h₀ L h' m → News h₀ L h' n' → LedR w R rest ad x ck sz of er pl pc b pla n' → Q () { s with heap := h', toks := s.toks + 2 }) :
    wpAny (model PySem.Challenge.pw_te0074_04 w) A (setAttr (.ref x) (Str.ofString "_bufferedCharacter") v) Q E s := by
  obtain ⟨hA, hO, h1, h9⟩ := hL
  obtain ⟨n1, n2, n3, n4, n5, n6, r1⟩ := apart7 hA hO
  walk1
  exact h _ _ (by assumption) (by assumption) (.mk hA hO h1 hv)
theorem s_place {Q : Unit → Shared → Prop} {c : Int} {u : Tok} (hL : LedR w R rest ad x ck sz of er pl pc bf pla news) (hT : ad[1]? = some xT) (F : Fr h₀ L s.heap m) (X : (hd04.heap_39 w.params).In h₀) (N : News h₀ L s.heap news) (h : ∀ h' n', Fr h₀ L h' m → News h₀ L h' n' → LedR w R rest ad x ck sz of er pl pc bf c n' → Q () { s with heap := h', toks := s.toks + 2 }) :
    wpAny (model PySem.Challenge.pw_te0074_04 w) A (setAttr (.ref xT) (Str.ofString "place") (.int c u)) Q E s := by
  obtain ⟨hA, hO, h1, h9⟩ := hL
  obtain rfl := Option.some.inj hT
  walk1
  exact h _ _ (by assumption) (by assumption) (.mk hA hO h1 h9)
theorem m_pos_ {Q : Value × List Value → Shared → Prop} {sem : Sem Bool} (hL : LedR w R rest ad x ck sz of er pl pc bf pla news) (F : Fr h₀ L s.heap m) (X : (hd04.heap_39 w.params).In h₀) (N : News h₀ L s.heap news) (h : Q (.ref 84, [.ref x]) s) :
    wpAny (model PySem.Challenge.pw_te0074_04 w) A (getMethod (.ref x) (Str.ofString "_position") sem) Q E s := by
  obtain ⟨hA, hO, h1, h9⟩ := hL
  walk1
  exact h
theorem m_pos {Q : Value × List Value → Shared → Prop} {sem : Sem Bool} (hL : LedR w R rest ad x ck sz of er pl pc bf pla news) (F : Fr h₀ L s.heap m) (X : (hd04.heap_39 w.params).In h₀) (N : News h₀ L s.heap news) (h : Q (.ref 91, [.ref x]) s) :
    wpAny (model PySem.Challenge.pw_te0074_04 w) A (getMethod (.ref x) (Str.ofString "position") sem) Q E s := by
  obtain ⟨hA, hO, h1, h9⟩ := hL
  walk1
  exact h
theorem m_char {Q : Value × List Value → Shared → Prop} {sem : Sem Bool} (hL : LedR w R rest ad x ck sz of er pl pc bf pla news) (F : Fr h₀ L s.heap m) (X : (hd04.heap_39 w.params).In h₀) (N : News h₀ L s.heap news) (h : Q (.ref 98, [.ref x]) s) :
    wpAny (model PySem.Challenge.pw_te0074_04 w) A (getMethod (.ref x) (Str.ofString "char") sem) Q E s := by
  obtain ⟨hA, hO, h1, h9⟩ := hL
  walk1
  exact h
theorem m_chunk {Q : Value × List Value → Shared → Prop} {sem : Sem Bool} (hL : LedR w R rest ad x ck sz of er pl pc bf pla news) (F : Fr h₀ L s.heap m) (X : (hd04.heap_39 w.params).In h₀) (N : News h₀ L s.heap news) (h : Q (.ref 106, [.ref x]) s) :
    wpAny (model PySem.Challenge.pw_te0074_04 w) A (getMethod (.ref x) (Str.ofString "readChunk") sem) Q E s := by
  obtain ⟨hA, hO, h1, h9⟩ := hL
  walk1
  exact h
theorem m_unget {Q : Value × List Value → Shared → Prop} {sem : Sem Bool} (hL : LedR w R rest ad x ck sz of er pl pc bf pla news) (F : Fr h₀ L s.heap m) (X : (hd04.heap_39 w.params).In h₀) (N : News h₀ L s.heap news) (h : Q (.ref 128, [.ref x]) s) :
    wpAny (model PySem.Challenge.pw_te0074_04 w) A (getMethod (.ref x) (Str.ofString "unget") sem) Q E s := by
  obtain ⟨hA, hO, h1, h9⟩ := hL
  walk1
  exact h
theorem m_until {Q : Value × List Value → Shared → Prop} {sem : Sem Bool} (hL : LedR w R rest ad x ck sz of er pl pc bf pla news) (F : Fr h₀ L s.heap m) (X : (hd04.heap_39 w.params).In h₀) (N : News h₀ L s.heap news) (h : Q (.ref 121, [.ref x]) s) :
    wpAny (model PySem.Challenge.pw_te0074_04 w) A (getMethod (.ref x) (Str.ofString "charsUntil") sem) Q E s := by
  obtain ⟨hA, hO, h1, h9⟩ := hL
  walk1
  exact h
theorem m_read {Q : Value × List Value → Shared → Prop} {sem : Sem Bool} (hL : LedR w R rest ad x ck sz of er pl pc bf pla news) (hT : ad[1]? = some xT) (F : Fr h₀ L s.heap m) (X : (hd04.heap_39 w.params).In h₀) (N : News h₀ L s.heap news) (h : Q (.ref 35, [.ref xT]) s) :
    wpAny (model PySem.Challenge.pw_te0074_04 w) A (getMethod (.ref xT) (Str.ofString "read") sem) Q E s := by
  obtain ⟨hA, hO, h1, h9⟩ := hL
  obtain rfl := Option.some.inj hT
  walk1
  exact h
theorem m_rep {Q : Value × List Value → Shared → Prop} {sem : Sem Bool} (hL : LedR w R rest ad x ck sz of er pl pc bf pla news) (F : Fr h₀ L s.heap m) (X : (hd04.heap_39 w.params).In h₀) (N : News h₀ L s.heap news) (h : ∀ q, (q, methodObj (.ref 113) (.ref x)) ∈ news → Q (.ref q, []) { s with toks := s.toks + 1 }) :
    wpAny (model PySem.Challenge.pw_te0074_04 w) A (getMethod (.ref x) (Str.ofString "reportCharacterErrors") sem) Q E s := by
  obtain ⟨hA, hO, h1, h9⟩ := hL
  walk1
  walk1
  exact h _ (.tail _ (.tail _ (.tail _ (.tail _ (.head _)))))
theorem e_list (hL : LedR w R rest ad x ck sz of er pl pc bf pla news) {e : Nat} (hE : ad[0]? = some e) : ∃ (ev : List Value) (ep : Nat), (e, W.listOf ev.toArray ep) ∈ news ∧ StrsAre ev (List.replicate er sInv) := by
  obtain ⟨hA, hO, h1, h9⟩ := hL
  obtain rfl := Option.some.inj hE
  exact ⟨_, _, .head _, h1⟩
theorem m_append {Q : Value × List Value → Shared → Prop} {sem : Sem Bool} (hL : LedR w R rest ad x ck sz of er pl pc bf pla news) {e : Nat} (hE : ad[0]? = some e) (F : Fr h₀ L s.heap m) (X : (hd04.heap_39 w.params).In h₀) (N : News h₀ L s.heap news) (h : Q (.builtin "list.append", [.ref e]) s) :
    wpAny (model PySem.Challenge.pw_te0074_04 w) A (getMethod (.ref e) (Str.ofString "append") sem) Q E s := by
  obtain ⟨hA, hO, h1, h9⟩ := hL
  obtain rfl := Option.some.inj hE
  walk1
  exact h
theorem app_err {Q : Value → Shared → Prop} {u : Tok} (hL : LedR w R rest ad x ck sz of er pl pc bf pla news) {e : Nat} (hE : ad[0]? = some e) (F : Fr h₀ L s.heap m) (X : (hd04.heap_39 w.params).In h₀) (N : News h₀ L s.heap news) (hs : er ≤ 1000000) (h : ∀ h' n', Fr h₀ L h' m → News h₀ L h' n' → LedR w R rest ad x ck sz of (er + 1) pl pc bf pla n' → Q .none { s with heap := h' }) :
    wpAny (model PySem.Challenge.pw_te0074_04 w) A (call (.builtin "list.append") [.ref e, .str sInv u]) Q E s := by
  obtain ⟨hA, hO, h1, h9⟩ := hL
  obtain rfl := Option.some.inj hE
  have hl := StrsAre.length h1
  rw [List.length_replicate] at hl
  refine append_K F N (.head (fun p hp => ?_)) (fun h' F' N' => ?_) ?_
  · simp only [List.mem_cons] at hp
    obtain ⟨g2, g3, g4, g5, g6, g7⟩ := hA
    have g6 := Nat.lt_trans g6 g7
    have g5 := Nat.lt_trans g5 g6
    have g4 := Nat.lt_trans g4 g5
    have g3 := Nat.lt_trans g3 g4
    have g2 := Nat.lt_trans g2 g3
    rcases hp with h | h | h | h | h | h | h
    all_goals first
      | (subst h; show @Ne Nat _ _; exact Nat.ne_of_lt (by assumption))
      | exact hO p h _ (.head _)
  · rw [List.push_toArray] at N'
    refine h _ _ F' N' (.mk hA hO ?_ h9)
    rw [List.replicate_succ']
    exact kct_snoc h1
  · rw [List.size_toArray, PySem.sizeLine_eq]; lia
end
section
variable {w : World} {mean : ExcName → Option Value} {mg mb : Str → Option Value} {R : List Nat} {rest : List (Addr × Obj)} {ad : List Nat} {x : Nat} {ck : List Nat} {sz of : Int} {er pl pc : Nat} {bf : Option Nat} {pla : Int} {news : List (Addr × Obj)}
set_option maxRecDepth 100000 in
set_option maxHeartbeats 8000000 in
theorem pos_spec (hL : LedR w R rest ad x ck sz of er (pl : Int) (pc : Int) bf pla news) (o : Nat) (t : Tok) (ho : o ≤ ck.length) (hsz : ck.length ≤ 10000) :
    Spec w mean mg mb 84 [.ref x, .int (o : Int) t] 5 60 news (fun v n => PosIs v n news ((ck.take o).foldl adv (pl, pc))) := by
  refine Spec.of ?_
  intro dp un gd cn cs a ccd cl outer A₀ base h₀ L m s Q E B F X N T hk hd hu hret
  k_with_none
  k_with "tb" => (first | assumption | (apply le3; assumption; exact rfl) | lia | (simp only [List.length_append, List.length_cons, List.length_nil, List.length_take, List.length_drop, List.length_dropLast, crs_len, partOf_len] at *; lia) | ((with_reducible refine Nat.le_trans (crlf_len _) ?_); tb_start) | ((with_reducible refine Nat.le_trans (split_len _) ?_); tb_start) | ((with_reducible refine Nat.le_trans (norm_len _) ?_); tb_start))
  k_with "call builtin:str.count" => (refine count4 (by decide +kernel) (by first | assumption | lia) ?_)
  k_with "call builtin:str.rfind" => (refine rfind4 (by decide +kernel) (by first | assumption | lia) ?_)
  k_with "call builtin:str.replace" => ((try dsimp only at *); k_dflt (refine repl_crlf_S (by decide +kernel) (by decide +kernel) (by k_ne) (by k_ne) (by k_ne) (by tb_start) ?_); intro _ _ _)
  k_with "call builtin:str.replace" => ((try dsimp only at *); k_dflt (refine repl_cr_S (by decide +kernel) (by decide +kernel) (by k_ne) (by k_ne) (by k_ne) (by tb_start) ?_); intro _ _ _)
  k_with "call builtin:len" => ((with_reducible show wpAny _ _ (call (Value.builtin "len") [Value.str (S _) _]) _ _ _); refine len_S (by tb_start) ?_)
  k_with "call builtin:ord" => ((with_reducible show wpAny _ _ (call (Value.builtin "ord") [Value.str (S _) _]) _ _ _); refine ord_S ?_)
  k_with "binaryOp Add str str" => ((with_reducible show wpAny _ _ (binaryOp Operator.Add (Value.str (S _) _) (Value.str (S _) _)) _ _ _); refine add_S (by tb_start) ?_; intro _ _)
  k_with "inplaceOp Add str str" => ((with_reducible show wpAny _ _ (inplaceOp Operator.Add (Value.str (S _) _) (Value.str (S _) _)) _ _ _); refine iadd_S (by tb_start) ?_; intro _ _)
  k_with "truthy str" => ((with_reducible show wpAny _ _ (truthy (Value.str (S _) _)) _ _ _); refine truthy_S (by tb_start) ?_)
  k_with "compareOp Eq str str" => ((with_reducible show wpAny _ _ (compareOp CmpOp.Eq (Value.str (S _) _) (Value.str (S _) _)) _ _ _); refine eq_S ?_)
  k_with "compareOp NotEq str str" => ((with_reducible show wpAny _ _ (compareOp CmpOp.NotEq (Value.str (S _) _) (Value.str (S _) _)) _ _ _); refine ne_S ?_)
  k_with "subscriptTail Name Slice str ref" => (k_here; (with_reducible rename Fr _ _ _ _ => F'); (with_reducible rename News _ _ _ _ => N'); k_dflt (refine drop_S (s := ⟨_, _, _, _, _⟩) F' N' (by tb_start) ?_); intro _ _ _ _ _; (try k_sweep))
  k_with "subscriptTail Name Slice str ref" => (k_here; (with_reducible rename Fr _ _ _ _ => F'); (with_reducible rename News _ _ _ _ => N'); k_dflt (refine take_S (s := ⟨_, _, _, _, _⟩) F' N' (by tb_start) ?_); intro _ _ _ _ _; (try k_sweep))
  k_with "subscriptTail Name Slice str ref" => (k_here; (with_reducible rename Fr _ _ _ _ => F'); (with_reducible rename News _ _ _ _ => N'); k_dflt (refine mid_S (s := ⟨_, _, _, _, _⟩) F' N' (by tb_start) ?_); intro _ _ _ _ _; (try k_sweep))
  k_with "subscriptTail Name Slice str ref" => (k_here; (with_reducible rename Fr _ _ _ _ => F'); (with_reducible rename News _ _ _ _ => N'); k_dflt (refine part_S (s := ⟨_, _, _, _, _⟩) F' N' (by tb_start) ?_); intro _ _ _ _ _; (try k_sweep))
  k_with "subscriptTail Name Slice str ref" => (k_here; (with_reducible rename Fr _ _ _ _ => F'); (with_reducible rename News _ _ _ _ => N'); k_dflt (refine init_S (s := ⟨_, _, _, _, _⟩) F' N' (by tb_start) ?_); intro _ _ _ _ _; (try k_sweep))
  k_with "subscriptTail Name UnaryOp str int" => (k_here; (with_reducible show wpAny _ _ (subscriptTail _ _ (Value.str (S _) _) (Value.int _ _)) _ _ _); k_dflt (first | (refine last_S (by first | assumption | (intro hz; simp only [hz, List.length_nil] at *; lia)) (by tb_start) ?_) | (refine item_S (by first | assumption | lia | k_extra "my item") (by tb_start) ?_)))
  k_with "subscriptTail Name Name str int" => (k_here; (with_reducible show wpAny _ _ (subscriptTail _ _ (Value.str (S _) _) (Value.int _ _)) _ _ _); first | (with_reducible refine item_S (by k_dflt (first | assumption | lia | k_extra "my item")) (by k_dflt tb_start) ?_) | k_dflt (refine item_Si (by lia) (by first | lia | k_extra "my item") (by tb_start) ?_))
  k_with "subscriptTail Name Constant str int" => (k_here; (with_reducible show wpAny _ _ (subscriptTail _ _ (Value.str (S _) _) (Value.int _ _)) _ _ _); first | (with_reducible refine item_S (by k_dflt (first | assumption | lia | k_extra "my item")) (by k_dflt tb_start) ?_) | k_dflt (refine item_Si (by lia) (by first | lia | k_extra "my item") (by tb_start) ?_))
  k_with "subscriptTail Name BinOp str int" => (k_here; (with_reducible show wpAny _ _ (subscriptTail _ _ (Value.str (S _) _) (Value.int _ _)) _ _ _); first | (with_reducible refine item_S (by k_dflt (first | assumption | lia | k_extra "my item")) (by k_dflt tb_start) ?_) | k_dflt (refine item_Si (by lia) (by first | lia | k_extra "my item") (by tb_start) ?_))
  k_with "subscriptTail Attribute Name str int" => (k_here; (with_reducible show wpAny _ _ (subscriptTail _ _ (Value.str (S _) _) (Value.int _ _)) _ _ _); first | (with_reducible refine item_S (by k_dflt (first | assumption | lia | k_extra "my item")) (by k_dflt tb_start) ?_) | k_dflt (refine item_Si (by lia) (by first | lia | k_extra "my item") (by tb_start) ?_))
  k_with "subscriptTail Attribute Constant str int" => (k_here; (with_reducible show wpAny _ _ (subscriptTail _ _ (Value.str (S _) _) (Value.int _ _)) _ _ _); first | (with_reducible refine item_S (by k_dflt (first | assumption | lia | k_extra "my item")) (by k_dflt tb_start) ?_) | k_dflt (refine item_Si (by lia) (by first | lia | k_extra "my item") (by tb_start) ?_))
  k_with "subscriptTail Attribute Attribute str int" => (k_here; (with_reducible show wpAny _ _ (subscriptTail _ _ (Value.str (S _) _) (Value.int _ _)) _ _ _); first | (with_reducible refine item_S (by k_dflt (first | assumption | lia | k_extra "my item")) (by k_dflt tb_start) ?_) | k_dflt (refine item_Si (by lia) (by first | lia | k_extra "my item") (by tb_start) ?_))
  k_with "truthy ref" => (k_here; k_dflt (refine' truthy_meth ?N ?q ?_; (case N => k_asm); (case q => k_mem); k_whole))
  k_with "exec For Name Name cons nil" => (k_here; (with_reducible rename Fr _ _ _ _ => lF'); k_dflt (refine' For_invVF lF' ?k1 ?k2 ?_; (case k1 => exact rfl); (case k2 => exact rfl); k_whole))
  k_with "exec For Name Subscript cons nil" => (k_here; (with_reducible rename Fr _ _ _ _ => lF'); k_dflt (refine' For_invVF lF' ?k1 ?k2 ?_; (case k1 => exact rfl); (case k2 => exact rfl); k_whole))
  k_with "all" => (refine List.forall_mem_append.mpr ⟨?a, ?b⟩; (case a => k_all); (case b => k_all))
  k_with "rel" => (simp only [List.size_toArray]; rw [PySem.sizeLine_eq]; lia)
  k_with "call builtin:list.append" => (k_here; (with_reducible show wpAny _ _ (call (Value.builtin _) [Value.ref _, _]) _ _ _); k_dflt (refine' append_K ?k1 ?k2 ?k3 ?_ ?z; (case k1 => k_asm); (case k2 => k_asm); (case k3 => k_upd); (case z => tb_rel); k_whole); intro h' F' N'; (try simp only [List.push_toArray] at N'); (try k_sweep))
  k_with "enter" => (refine' code_def ?k1 ?k2 ?k3 ?k4 ?k5 ?kA ?kF ?kK ?k6 ?k7 ?k8 ?k9 ?kB ?_ ?c2 ?c3 ?c4 ?c5; (case kA => exact rfl); (case kF => exact rfl); (case kK => assumption); (case k1 => k_asm); (case k2 => k_asm); (case k3 => k_asm); (case k4 => k_asm); (case k5 => k_asm); (case k6 => k_is); (case k7 => k_is); (case k8 => ktr_room); (case k9 => first | exact BindsTo.of_eq rfl | exact binds_K (by k_in) rfl (by k_is) rfl rfl rfl); (case c5 => decide); (case kB => exact locs rfl); (case c2 => exact rfl); (case c3 => exact rfl); (case c4 => exact rfl); k_whole; intro g' L' h' FG' F' N' B' X' T'; (try dsimp only); (try k_lift B'); (try k_fold))
  k_with "JoinP" => (dsimp only [JoinP])
  k_with "subscriptTail" => (k_here; (with_reducible show wpAny _ _ (subscriptTail _ _ (Value.str (S _) _) (Value.int _ _)) _ _ _); first | (with_reducible refine item_S (by k_dflt (first | assumption | lia | k_extra "my item")) (by k_dflt tb_start) ?_) | k_dflt (refine item_Si (by lia) (by first | lia | k_extra "my item") (by tb_start) ?_))
  k_with "compareOp Eq str str" => ((with_reducible show wpAny _ _ (compareOp CmpOp.Eq (Value.str (S _) _) (Value.str (Str.ofString _) _)) _ _ _); k_dflt (first | refine eq_lit [13] (by decide +kernel) ?_ | refine eq_lit [10] (by decide +kernel) ?_))
  k_with "compareOp NotEq str str" => ((with_reducible show wpAny _ _ (compareOp CmpOp.NotEq (Value.str (S _) _) (Value.str (Str.ofString _) _)) _ _ _); k_dflt (first | refine ne_lit [13] (by decide +kernel) ?_ | refine ne_lit [10] (by decide +kernel) ?_))
  k_with "inplaceOp Add str str" => ((with_reducible show wpAny _ _ (inplaceOp Operator.Add (Value.str (S _) _) (Value.str (Str.ofString _) _)) _ _ _); k_dflt (refine iadd_lit [10] (by decide +kernel) (by tb_start) ?_); intro _ _)
  k_with "room" => (k_dflt ((first | apply room4 | apply room3 | apply room2 | apply room1 | apply room0 | apply roomz); assumption; exact rfl))
  k_with "getAttr ref" => ((with_reducible show wpAny _ _ (getAttr (Value.ref _) (Str.ofString "chunk") _) _ _ _); k_dflt (refine g_chunk (by assumption) (by k_asm) (by k_asm) ?N ?_; (case N => first | k_asm | exact News.tl (by k_asm) | exact News.tl (News.tl (by k_asm)) | exact News.tl (News.tl (News.tl (by k_asm))))); intro _)
  k_with "getAttr ref" => ((with_reducible show wpAny _ _ (getAttr (Value.ref _) (Str.ofString "chunkSize") _) _ _ _); k_dflt (refine g_size (by assumption) (by k_asm) (by k_asm) ?N ?_; (case N => first | k_asm | exact News.tl (by k_asm) | exact News.tl (News.tl (by k_asm)) | exact News.tl (News.tl (News.tl (by k_asm))))); intro _)
  k_with "getAttr ref" => ((with_reducible show wpAny _ _ (getAttr (Value.ref _) (Str.ofString "chunkOffset") _) _ _ _); k_dflt (refine g_off (by assumption) (by k_asm) (by k_asm) ?N ?_; (case N => first | k_asm | exact News.tl (by k_asm) | exact News.tl (News.tl (by k_asm)) | exact News.tl (News.tl (News.tl (by k_asm))))); intro _)
  k_with "getAttr ref" => ((with_reducible show wpAny _ _ (getAttr (Value.ref _) (Str.ofString "prevNumLines") _) _ _ _); k_dflt (refine g_pl (by assumption) (by k_asm) (by k_asm) ?N ?_; (case N => first | k_asm | exact News.tl (by k_asm) | exact News.tl (News.tl (by k_asm)) | exact News.tl (News.tl (News.tl (by k_asm))))); intro _)
  k_with "getAttr ref" => ((with_reducible show wpAny _ _ (getAttr (Value.ref _) (Str.ofString "prevNumCols") _) _ _ _); k_dflt (refine g_pc (by assumption) (by k_asm) (by k_asm) ?N ?_; (case N => first | k_asm | exact News.tl (by k_asm) | exact News.tl (News.tl (by k_asm)) | exact News.tl (News.tl (News.tl (by k_asm))))); intro _)
  k_with "getAttr ref" => ((with_reducible show wpAny _ _ (getAttr (Value.ref _) (Str.ofString "errors") _) _ _ _); k_dflt (refine g_errors (by assumption) (by k_asm) (by k_asm) ?N ?_; (case N => first | k_asm | exact News.tl (by k_asm) | exact News.tl (News.tl (by k_asm)) | exact News.tl (News.tl (News.tl (by k_asm))))); intro _ hE1)
  k_with "getAttr ref" => ((with_reducible show wpAny _ _ (getAttr (Value.ref _) (Str.ofString "dataStream") _) _ _ _); k_dflt (refine g_stream (by assumption) (by k_asm) (by k_asm) ?N ?_; (case N => first | k_asm | exact News.tl (by k_asm) | exact News.tl (News.tl (by k_asm)) | exact News.tl (News.tl (News.tl (by k_asm))))); intro _ hT1)
  k_with "getAttr ref" => ((with_reducible show wpAny _ _ (getAttr (Value.ref _) (Str.ofString "_bufferedCharacter") _) _ _ _); k_dflt (refine g_buf (by assumption) (by k_asm) (by k_asm) ?N ?_; (case N => first | k_asm | exact News.tl (by k_asm) | exact News.tl (News.tl (by k_asm)) | exact News.tl (News.tl (News.tl (by k_asm))))); intro _ hB1; (try cases hB1))
  k_with "getAttr ref" => ((with_reducible show wpAny _ _ (getAttr (Value.ref _) (Str.ofString "reportCharacterErrors") _) _ _ _); k_dflt (refine g_rep (by assumption) (by k_asm) (by k_asm) ?N ?_; (case N => first | k_asm | exact News.tl (by k_asm) | exact News.tl (News.tl (by k_asm)) | exact News.tl (News.tl (News.tl (by k_asm))))); intro _ hR1)
  k_with "getAttr ref" => ((with_reducible show wpAny _ _ (getAttr (Value.ref _) (Str.ofString "_defaultChunkSize") _) _ _ _); k_dflt (refine g_dflt (by assumption) (by k_asm) (by k_asm) ?N ?_; (case N => first | k_asm | exact News.tl (by k_asm) | exact News.tl (News.tl (by k_asm)) | exact News.tl (News.tl (News.tl (by k_asm))))); intro _)
  k_with "getAttr ref" => ((with_reducible show wpAny _ _ (getAttr (Value.ref _) (Str.ofString "text") _) _ _ _); k_dflt (refine g_text (by assumption) (by assumption) (by k_asm) (by k_asm) ?N ?_; (case N => first | k_asm | exact News.tl (by k_asm) | exact News.tl (News.tl (by k_asm)) | exact News.tl (News.tl (News.tl (by k_asm))))); intro _)
  k_with "getAttr ref" => ((with_reducible show wpAny _ _ (getAttr (Value.ref _) (Str.ofString "place") _) _ _ _); k_dflt (refine g_place (by assumption) (by assumption) (by k_asm) (by k_asm) ?N ?_; (case N => first | k_asm | exact News.tl (by k_asm) | exact News.tl (News.tl (by k_asm)) | exact News.tl (News.tl (News.tl (by k_asm))))); intro _)
  k_with "setAttr ref" => ((with_reducible show wpAny _ _ (setAttr (Value.ref _) (Str.ofString "chunk") _) _ _ _); (with_reducible rename LedR _ _ _ _ _ _ _ _ _ _ _ _ _ _ => hLo); k_dflt (refine s_chunk hLo (by k_asm) (by k_asm) ?N ?_; (case N => first | k_asm | exact News.tl (by k_asm) | exact News.tl (News.tl (by k_asm)) | exact News.tl (News.tl (News.tl (by k_asm))))); intro h' n' F' N' hL'; (try k_sweep); clear hLo)
  k_with "setAttr ref" => ((with_reducible show wpAny _ _ (setAttr (Value.ref _) (Str.ofString "chunk") (Value.str (Str.ofString "") _)) _ _ _); (with_reducible rename LedR _ _ _ _ _ _ _ _ _ _ _ _ _ _ => hLo); k_dflt (refine s_chunk0 hLo (by k_asm) (by k_asm) ?N ?_; (case N => first | k_asm | exact News.tl (by k_asm) | exact News.tl (News.tl (by k_asm)) | exact News.tl (News.tl (News.tl (by k_asm))))); intro h' n' F' N' hL'; (try k_sweep); clear hLo)
  k_with "setAttr ref" => ((with_reducible show wpAny _ _ (setAttr (Value.ref _) (Str.ofString "chunkSize") _) _ _ _); (with_reducible rename LedR _ _ _ _ _ _ _ _ _ _ _ _ _ _ => hLo); k_dflt (refine s_size hLo (by k_asm) (by k_asm) ?N ?_; (case N => first | k_asm | exact News.tl (by k_asm) | exact News.tl (News.tl (by k_asm)) | exact News.tl (News.tl (News.tl (by k_asm))))); intro h' n' F' N' hL'; (try k_sweep); clear hLo)
  k_with "setAttr ref" => ((with_reducible show wpAny _ _ (setAttr (Value.ref _) (Str.ofString "chunkOffset") _) _ _ _); (with_reducible rename LedR _ _ _ _ _ _ _ _ _ _ _ _ _ _ => hLo); k_dflt (refine s_off hLo (by k_asm) (by k_asm) ?N ?_; (case N => first | k_asm | exact News.tl (by k_asm) | exact News.tl (News.tl (by k_asm)) | exact News.tl (News.tl (News.tl (by k_asm))))); intro h' n' F' N' hL'; (try k_sweep); clear hLo)
  k_with "setAttr ref" => ((with_reducible show wpAny _ _ (setAttr (Value.ref _) (Str.ofString "prevNumLines") _) _ _ _); (with_reducible rename LedR _ _ _ _ _ _ _ _ _ _ _ _ _ _ => hLo); k_dflt (refine s_pl hLo (by k_asm) (by k_asm) ?N ?_; (case N => first | k_asm | exact News.tl (by k_asm) | exact News.tl (News.tl (by k_asm)) | exact News.tl (News.tl (News.tl (by k_asm))))); intro h' n' F' N' hL'; (try k_sweep); clear hLo)
  k_with "setAttr ref" => ((with_reducible show wpAny _ _ (setAttr (Value.ref _) (Str.ofString "prevNumCols") _) _ _ _); (with_reducible rename LedR _ _ _ _ _ _ _ _ _ _ _ _ _ _ => hLo); k_dflt (refine s_pc hLo (by k_asm) (by k_asm) ?N ?_; (case N => first | k_asm | exact News.tl (by k_asm) | exact News.tl (News.tl (by k_asm)) | exact News.tl (News.tl (News.tl (by k_asm))))); intro h' n' F' N' hL'; (try k_sweep); clear hLo)
  k_with "setAttr ref" => ((with_reducible show wpAny _ _ (setAttr (Value.ref _) (Str.ofString "_bufferedCharacter") _) _ _ _); (with_reducible rename LedR _ _ _ _ _ _ _ _ _ _ _ _ _ _ => hLo); k_dflt (refine s_buf (by first | exact BufIs.none | exact BufIs.some | assumption) hLo (by k_asm) (by k_asm) ?N ?_; (case N => first | k_asm | exact News.tl (by k_asm) | exact News.tl (News.tl (by k_asm)) | exact News.tl (News.tl (News.tl (by k_asm))))); intro h' n' F' N' hL'; (try k_sweep); clear hLo)
  k_with "setAttr ref" => ((with_reducible show wpAny _ _ (setAttr (Value.ref _) (Str.ofString "place") _) _ _ _); (with_reducible rename LedR _ _ _ _ _ _ _ _ _ _ _ _ _ _ => hLo); k_dflt (refine s_place hLo (by assumption) (by k_asm) (by k_asm) ?N ?_; (case N => first | k_asm | exact News.tl (by k_asm) | exact News.tl (News.tl (by k_asm)) | exact News.tl (News.tl (News.tl (by k_asm))))); intro h' n' F' N' hL'; (try k_sweep); clear hLo)
  k_with "getMethod ref" => ((with_reducible show wpAny _ _ (getMethod (Value.ref _) (Str.ofString "_position") _) _ _ _); k_dflt (refine m_pos_ (by assumption) (by k_asm) (by k_asm) ?N ?_; (case N => first | k_asm | exact News.tl (by k_asm) | exact News.tl (News.tl (by k_asm)) | exact News.tl (News.tl (News.tl (by k_asm))))))
  k_with "getMethod ref" => ((with_reducible show wpAny _ _ (getMethod (Value.ref _) (Str.ofString "position") _) _ _ _); k_dflt (refine m_pos (by assumption) (by k_asm) (by k_asm) ?N ?_; (case N => first | k_asm | exact News.tl (by k_asm) | exact News.tl (News.tl (by k_asm)) | exact News.tl (News.tl (News.tl (by k_asm))))))
  k_with "getMethod ref" => ((with_reducible show wpAny _ _ (getMethod (Value.ref _) (Str.ofString "char") _) _ _ _); k_dflt (refine m_char (by assumption) (by k_asm) (by k_asm) ?N ?_; (case N => first | k_asm | exact News.tl (by k_asm) | exact News.tl (News.tl (by k_asm)) | exact News.tl (News.tl (News.tl (by k_asm))))))
  k_with "getMethod ref" => ((with_reducible show wpAny _ _ (getMethod (Value.ref _) (Str.ofString "readChunk") _) _ _ _); k_dflt (refine m_chunk (by assumption) (by k_asm) (by k_asm) ?N ?_; (case N => first | k_asm | exact News.tl (by k_asm) | exact News.tl (News.tl (by k_asm)) | exact News.tl (News.tl (News.tl (by k_asm))))))
  k_with "getMethod ref" => ((with_reducible show wpAny _ _ (getMethod (Value.ref _) (Str.ofString "unget") _) _ _ _); k_dflt (refine m_unget (by assumption) (by k_asm) (by k_asm) ?N ?_; (case N => first | k_asm | exact News.tl (by k_asm) | exact News.tl (News.tl (by k_asm)) | exact News.tl (News.tl (News.tl (by k_asm))))))
  k_with "getMethod ref" => ((with_reducible show wpAny _ _ (getMethod (Value.ref _) (Str.ofString "charsUntil") _) _ _ _); k_dflt (refine m_until (by assumption) (by k_asm) (by k_asm) ?N ?_; (case N => first | k_asm | exact News.tl (by k_asm) | exact News.tl (News.tl (by k_asm)) | exact News.tl (News.tl (News.tl (by k_asm))))))
  k_with "getMethod ref" => ((with_reducible show wpAny _ _ (getMethod (Value.ref _) (Str.ofString "read") _) _ _ _); k_dflt (refine m_read (by assumption) (by assumption) (by k_asm) (by k_asm) ?N ?_; (case N => first | k_asm | exact News.tl (by k_asm) | exact News.tl (News.tl (by k_asm)) | exact News.tl (News.tl (News.tl (by k_asm))))))
  k_with "getMethod ref" => ((with_reducible show wpAny _ _ (getMethod (Value.ref _) (Str.ofString "reportCharacterErrors") _) _ _ _); k_dflt (refine m_rep (by assumption) (by k_asm) (by k_asm) ?N ?_; (case N => first | k_asm | exact News.tl (by k_asm) | exact News.tl (News.tl (by k_asm)) | exact News.tl (News.tl (News.tl (by k_asm))))); intro _ hR1)
  k_with "getMethod ref" => ((with_reducible show wpAny _ _ (getMethod (Value.ref _) (Str.ofString "append") _) _ _ _); k_dflt (refine m_append (by assumption) (by assumption) (by k_asm) (by k_asm) ?N ?_; (case N => first | k_asm | exact News.tl (by k_asm) | exact News.tl (News.tl (by k_asm)) | exact News.tl (News.tl (News.tl (by k_asm))))))
  k_with "call builtin:list.append" => ((with_reducible rename LedR _ _ _ _ _ _ _ _ _ _ _ _ _ _ => hLo); k_dflt (refine app_err hLo (by assumption) (by k_asm) (by k_asm) ?N (by lia) ?_; (case N => first | k_asm | exact News.tl (by k_asm) | exact News.tl (News.tl (by k_asm)) | exact News.tl (News.tl (News.tl (by k_asm))))); intro h' n' F' N' hL'; (try k_sweep); clear hLo)
  k_dflt (k_extra "enter")
  (rename Fr _ _ _ _ => F1)
  (with_unfolding_all change Fr _ _ _ (fun y => List.lookup y [(Str.ofString "offset", Value.int (o : Int) t), (Str.ofString "self", Value.ref x)]) at F1)
  k_steps
  all_goals (
    refine hret _ _ _ _ ⟨_, _, _, _, _, rfl, ?_, rfl, ?_, ?_⟩ (by assumption) (by assumption)
    · first | exact kst_ltOf (by assumption) | assumption
    · have h1 := lines_of ck o (pl, pc) ho
      lia
    · have h1 := rf_none (l := ck) (pl, pc) ho
      have h2 := rf_some (l := ck) (pl, pc) ho
      simp only [beq_iff_eq, decide_eq_true_eq, decide_eq_false_iff_not, beq_eq_false_iff_ne] at *
      lia)
end
section
variable {w : World} {mean : ExcName → Option Value} {mg mb : Str → Option Value} {R : List Nat} {rest : List (Addr × Obj)} {ad : List Nat} {x : Nat} {ck : List Nat} {sz of : Int} {er pl pc : Nat} {bf : Option Nat} {pla : Int} {news : List (Addr × Obj)}
set_option maxRecDepth 100000 in
set_option maxHeartbeats 8000000 in
theorem position_spec (o : Nat) (hL : LedR w R rest ad x ck sz (o : Int) er (pl : Int) (pc : Int) bf pla news) (ho : o ≤ ck.length) (hsz : ck.length ≤ 10000) :
    Spec w mean mg mb 91 [.ref x] 15 90 news (fun v n => PosIs v n news (((ck.take o).foldl adv (pl, pc)).1 + 1, ((ck.take o).foldl adv (pl, pc)).2)) := by
  refine Spec.of ?_
  intro dp un gd cn cs a ccd cl outer A₀ base h₀ L m s Q E B F X N T hk hd hu hret
  k_with_none
  k_with "tb" => (first | assumption | (apply le3; assumption; exact rfl) | lia | (simp only [List.length_append, List.length_cons, List.length_nil, List.length_take, List.length_drop, List.length_dropLast, crs_len, partOf_len] at *; lia) | ((with_reducible refine Nat.le_trans (crlf_len _) ?_); tb_start) | ((with_reducible refine Nat.le_trans (split_len _) ?_); tb_start) | ((with_reducible refine Nat.le_trans (norm_len _) ?_); tb_start))
  k_with "call builtin:str.count" => (refine count4 (by decide +kernel) (by first | assumption | lia) ?_)
  k_with "call builtin:str.rfind" => (refine rfind4 (by decide +kernel) (by first | assumption | lia) ?_)
  k_with "call builtin:str.replace" => ((try dsimp only at *); k_dflt (refine repl_crlf_S (by decide +kernel) (by decide +kernel) (by k_ne) (by k_ne) (by k_ne) (by tb_start) ?_); intro _ _ _)
  k_with "call builtin:str.replace" => ((try dsimp only at *); k_dflt (refine repl_cr_S (by decide +kernel) (by decide +kernel) (by k_ne) (by k_ne) (by k_ne) (by tb_start) ?_); intro _ _ _)
  k_with "call builtin:len" => ((with_reducible show wpAny _ _ (call (Value.builtin "len") [Value.str (S _) _]) _ _ _); refine len_S (by tb_start) ?_)
  k_with "call builtin:ord" => ((with_reducible show wpAny _ _ (call (Value.builtin "ord") [Value.str (S _) _]) _ _ _); refine ord_S ?_)
  k_with "binaryOp Add str str" => ((with_reducible show wpAny _ _ (binaryOp Operator.Add (Value.str (S _) _) (Value.str (S _) _)) _ _ _); refine add_S (by tb_start) ?_; intro _ _)
  k_with "inplaceOp Add str str" => ((with_reducible show wpAny _ _ (inplaceOp Operator.Add (Value.str (S _) _) (Value.str (S _) _)) _ _ _); refine iadd_S (by tb_start) ?_; intro _ _)
  k_with "truthy str" => ((with_reducible show wpAny _ _ (truthy (Value.str (S _) _)) _ _ _); refine truthy_S (by tb_start) ?_)
  k_with "compareOp Eq str str" => ((with_reducible show wpAny _ _ (compareOp CmpOp.Eq (Value.str (S _) _) (Value.str (S _) _)) _ _ _); refine eq_S ?_)
  k_with "compareOp NotEq str str" => ((with_reducible show wpAny _ _ (compareOp CmpOp.NotEq (Value.str (S _) _) (Value.str (S _) _)) _ _ _); refine ne_S ?_)
  k_with "subscriptTail Name Slice str ref" => (k_here; (with_reducible rename Fr _ _ _ _ => F'); (with_reducible rename News _ _ _ _ => N'); k_dflt (refine drop_S (s := ⟨_, _, _, _, _⟩) F' N' (by tb_start) ?_); intro _ _ _ _ _; (try k_sweep))
  k_with "subscriptTail Name Slice str ref" => (k_here; (with_reducible rename Fr _ _ _ _ => F'); (with_reducible rename News _ _ _ _ => N'); k_dflt (refine take_S (s := ⟨_, _, _, _, _⟩) F' N' (by tb_start) ?_); intro _ _ _ _ _; (try k_sweep))
  k_with "subscriptTail Name Slice str ref" => (k_here; (with_reducible rename Fr _ _ _ _ => F'); (with_reducible rename News _ _ _ _ => N'); k_dflt (refine mid_S (s := ⟨_, _, _, _, _⟩) F' N' (by tb_start) ?_); intro _ _ _ _ _; (try k_sweep))
  k_with "subscriptTail Name Slice str ref" => (k_here; (with_reducible rename Fr _ _ _ _ => F'); (with_reducible rename News _ _ _ _ => N'); k_dflt (refine part_S (s := ⟨_, _, _, _, _⟩) F' N' (by tb_start) ?_); intro _ _ _ _ _; (try k_sweep))
  k_with "subscriptTail Name Slice str ref" => (k_here; (with_reducible rename Fr _ _ _ _ => F'); (with_reducible rename News _ _ _ _ => N'); k_dflt (refine init_S (s := ⟨_, _, _, _, _⟩) F' N' (by tb_start) ?_); intro _ _ _ _ _; (try k_sweep))
  k_with "subscriptTail Name UnaryOp str int" => (k_here; (with_reducible show wpAny _ _ (subscriptTail _ _ (Value.str (S _) _) (Value.int _ _)) _ _ _); k_dflt (first | (refine last_S (by first | assumption | (intro hz; simp only [hz, List.length_nil] at *; lia)) (by tb_start) ?_) | (refine item_S (by first | assumption | lia | k_extra "my item") (by tb_start) ?_)))
  k_with "subscriptTail Name Name str int" => (k_here; (with_reducible show wpAny _ _ (subscriptTail _ _ (Value.str (S _) _) (Value.int _ _)) _ _ _); first | (with_reducible refine item_S (by k_dflt (first | assumption | lia | k_extra "my item")) (by k_dflt tb_start) ?_) | k_dflt (refine item_Si (by lia) (by first | lia | k_extra "my item") (by tb_start) ?_))
  k_with "subscriptTail Name Constant str int" => (k_here; (with_reducible show wpAny _ _ (subscriptTail _ _ (Value.str (S _) _) (Value.int _ _)) _ _ _); first | (with_reducible refine item_S (by k_dflt (first | assumption | lia | k_extra "my item")) (by k_dflt tb_start) ?_) | k_dflt (refine item_Si (by lia) (by first | lia | k_extra "my item") (by tb_start) ?_))
  k_with "subscriptTail Name BinOp str int" => (k_here; (with_reducible show wpAny _ _ (subscriptTail _ _ (Value.str (S _) _) (Value.int _ _)) _ _ _); first | (with_reducible refine item_S (by k_dflt (first | assumption | lia | k_extra "my item")) (by k_dflt tb_start) ?_) | k_dflt (refine item_Si (by lia) (by first | lia | k_extra "my item") (by tb_start) ?_))
  k_with "subscriptTail Attribute Name str int" => (k_here; (with_reducible show wpAny _ _ (subscriptTail _ _ (Value.str (S _) _) (Value.int _ _)) _ _ _); first | (with_reducible refine item_S (by k_dflt (first | assumption | lia | k_extra "my item")) (by k_dflt tb_start) ?_) | k_dflt (refine item_Si (by lia) (by first | lia | k_extra "my item") (by tb_start) ?_))
  k_with "subscriptTail Attribute Constant str int" => (k_here; (with_reducible show wpAny _ _ (subscriptTail _ _ (Value.str (S _) _) (Value.int _ _)) _ _ _); first | (with_reducible refine item_S (by k_dflt (first | assumption | lia | k_extra "my item")) (by k_dflt tb_start) ?_) | k_dflt (refine item_Si (by lia) (by first | lia | k_extra "my item") (by tb_start) ?_))
  k_with "subscriptTail Attribute Attribute str int" => (k_here; (with_reducible show wpAny _ _ (subscriptTail _ _ (Value.str (S _) _) (Value.int _ _)) _ _ _); first | (with_reducible refine item_S (by k_dflt (first | assumption | lia | k_extra "my item")) (by k_dflt tb_start) ?_) | k_dflt (refine item_Si (by lia) (by first | lia | k_extra "my item") (by tb_start) ?_))
  k_with "truthy ref" => (k_here; k_dflt (refine' truthy_meth ?N ?q ?_; (case N => k_asm); (case q => k_mem); k_whole))
  k_with "exec For Name Name cons nil" => (k_here; (with_reducible rename Fr _ _ _ _ => lF'); k_dflt (refine' For_invVF lF' ?k1 ?k2 ?_; (case k1 => exact rfl); (case k2 => exact rfl); k_whole))
  k_with "exec For Name Subscript cons nil" => (k_here; (with_reducible rename Fr _ _ _ _ => lF'); k_dflt (refine' For_invVF lF' ?k1 ?k2 ?_; (case k1 => exact rfl); (case k2 => exact rfl); k_whole))
  k_with "all" => (refine List.forall_mem_append.mpr ⟨?a, ?b⟩; (case a => k_all); (case b => k_all))
  k_with "rel" => (simp only [List.size_toArray]; rw [PySem.sizeLine_eq]; lia)
  k_with "call builtin:list.append" => (k_here; (with_reducible show wpAny _ _ (call (Value.builtin _) [Value.ref _, _]) _ _ _); k_dflt (refine' append_K ?k1 ?k2 ?k3 ?_ ?z; (case k1 => k_asm); (case k2 => k_asm); (case k3 => k_upd); (case z => tb_rel); k_whole); intro h' F' N'; (try simp only [List.push_toArray] at N'); (try k_sweep))
  k_with "enter" => (refine' code_def ?k1 ?k2 ?k3 ?k4 ?k5 ?kA ?kF ?kK ?k6 ?k7 ?k8 ?k9 ?kB ?_ ?c2 ?c3 ?c4 ?c5; (case kA => exact rfl); (case kF => exact rfl); (case kK => assumption); (case k1 => k_asm); (case k2 => k_asm); (case k3 => k_asm); (case k4 => k_asm); (case k5 => k_asm); (case k6 => k_is); (case k7 => k_is); (case k8 => ktr_room); (case k9 => first | exact BindsTo.of_eq rfl | exact binds_K (by k_in) rfl (by k_is) rfl rfl rfl); (case c5 => decide); (case kB => exact locs rfl); (case c2 => exact rfl); (case c3 => exact rfl); (case c4 => exact rfl); k_whole; intro g' L' h' FG' F' N' B' X' T'; (try dsimp only); (try k_lift B'); (try k_fold))
  k_with "JoinP" => (dsimp only [JoinP])
  k_with "subscriptTail" => (k_here; (with_reducible show wpAny _ _ (subscriptTail _ _ (Value.str (S _) _) (Value.int _ _)) _ _ _); first | (with_reducible refine item_S (by k_dflt (first | assumption | lia | k_extra "my item")) (by k_dflt tb_start) ?_) | k_dflt (refine item_Si (by lia) (by first | lia | k_extra "my item") (by tb_start) ?_))
  k_with "compareOp Eq str str" => ((with_reducible show wpAny _ _ (compareOp CmpOp.Eq (Value.str (S _) _) (Value.str (Str.ofString _) _)) _ _ _); k_dflt (first | refine eq_lit [13] (by decide +kernel) ?_ | refine eq_lit [10] (by decide +kernel) ?_))
  k_with "compareOp NotEq str str" => ((with_reducible show wpAny _ _ (compareOp CmpOp.NotEq (Value.str (S _) _) (Value.str (Str.ofString _) _)) _ _ _); k_dflt (first | refine ne_lit [13] (by decide +kernel) ?_ | refine ne_lit [10] (by decide +kernel) ?_))
  k_with "inplaceOp Add str str" => ((with_reducible show wpAny _ _ (inplaceOp Operator.Add (Value.str (S _) _) (Value.str (Str.ofString _) _)) _ _ _); k_dflt (refine iadd_lit [10] (by decide +kernel) (by tb_start) ?_); intro _ _)
  k_with "room" => (k_dflt ((first | apply room4 | apply room3 | apply room2 | apply room1 | apply room0 | apply roomz); assumption; exact rfl))
  k_with "getAttr ref" => ((with_reducible show wpAny _ _ (getAttr (Value.ref _) (Str.ofString "chunk") _) _ _ _); k_dflt (refine g_chunk (by assumption) (by k_asm) (by k_asm) ?N ?_; (case N => first | k_asm | exact News.tl (by k_asm) | exact News.tl (News.tl (by k_asm)) | exact News.tl (News.tl (News.tl (by k_asm))))); intro _)
  k_with "getAttr ref" => ((with_reducible show wpAny _ _ (getAttr (Value.ref _) (Str.ofString "chunkSize") _) _ _ _); k_dflt (refine g_size (by assumption) (by k_asm) (by k_asm) ?N ?_; (case N => first | k_asm | exact News.tl (by k_asm) | exact News.tl (News.tl (by k_asm)) | exact News.tl (News.tl (News.tl (by k_asm))))); intro _)
  k_with "getAttr ref" => ((with_reducible show wpAny _ _ (getAttr (Value.ref _) (Str.ofString "chunkOffset") _) _ _ _); k_dflt (refine g_off (by assumption) (by k_asm) (by k_asm) ?N ?_; (case N => first | k_asm | exact News.tl (by k_asm) | exact News.tl (News.tl (by k_asm)) | exact News.tl (News.tl (News.tl (by k_asm))))); intro _)
  k_with "getAttr ref" => ((with_reducible show wpAny _ _ (getAttr (Value.ref _) (Str.ofString "prevNumLines") _) _ _ _); k_dflt (refine g_pl (by assumption) (by k_asm) (by k_asm) ?N ?_; (case N => first | k_asm | exact News.tl (by k_asm) | exact News.tl (News.tl (by k_asm)) | exact News.tl (News.tl (News.tl (by k_asm))))); intro _)
  k_with "getAttr ref" => ((with_reducible show wpAny _ _ (getAttr (Value.ref _) (Str.ofString "prevNumCols") _) _ _ _); k_dflt (refine g_pc (by assumption) (by k_asm) (by k_asm) ?N ?_; (case N => first | k_asm | exact News.tl (by k_asm) | exact News.tl (News.tl (by k_asm)) | exact News.tl (News.tl (News.tl (by k_asm))))); intro _)
  k_with "getAttr ref" => ((with_reducible show wpAny _ _ (getAttr (Value.ref _) (Str.ofString "errors") _) _ _ _); k_dflt (refine g_errors (by assumption) (by k_asm) (by k_asm) ?N ?_; (case N => first | k_asm | exact News.tl (by k_asm) | exact News.tl (News.tl (by k_asm)) | exact News.tl (News.tl (News.tl (by k_asm))))); intro _ hE1)
  k_with "getAttr ref" => ((with_reducible show wpAny _ _ (getAttr (Value.ref _) (Str.ofString "dataStream") _) _ _ _); k_dflt (refine g_stream (by assumption) (by k_asm) (by k_asm) ?N ?_; (case N => first | k_asm | exact News.tl (by k_asm) | exact News.tl (News.tl (by k_asm)) | exact News.tl (News.tl (News.tl (by k_asm))))); intro _ hT1)
  k_with "getAttr ref" => ((with_reducible show wpAny _ _ (getAttr (Value.ref _) (Str.ofString "_bufferedCharacter") _) _ _ _); k_dflt (refine g_buf (by assumption) (by k_asm) (by k_asm) ?N ?_; (case N => first | k_asm | exact News.tl (by k_asm) | exact News.tl (News.tl (by k_asm)) | exact News.tl (News.tl (News.tl (by k_asm))))); intro _ hB1; (try cases hB1))
  k_with "getAttr ref" => ((with_reducible show wpAny _ _ (getAttr (Value.ref _) (Str.ofString "reportCharacterErrors") _) _ _ _); k_dflt (refine g_rep (by assumption) (by k_asm) (by k_asm) ?N ?_; (case N => first | k_asm | exact News.tl (by k_asm) | exact News.tl (News.tl (by k_asm)) | exact News.tl (News.tl (News.tl (by k_asm))))); intro _ hR1)
  k_with "getAttr ref" => ((with_reducible show wpAny _ _ (getAttr (Value.ref _) (Str.ofString "_defaultChunkSize") _) _ _ _); k_dflt (refine g_dflt (by assumption) (by k_asm) (by k_asm) ?N ?_; (case N => first | k_asm | exact News.tl (by k_asm) | exact News.tl (News.tl (by k_asm)) | exact News.tl (News.tl (News.tl (by k_asm))))); intro _)
  k_with "getAttr ref" => ((with_reducible show wpAny _ _ (getAttr (Value.ref _) (Str.ofString "text") _) _ _ _); k_dflt (refine g_text (by assumption) (by assumption) (by k_asm) (by k_asm) ?N ?_; (case N => first | k_asm | exact News.tl (by k_asm) | exact News.tl (News.tl (by k_asm)) | exact News.tl (News.tl (News.tl (by k_asm))))); intro _)
  k_with "getAttr ref" => ((with_reducible show wpAny _ _ (getAttr (Value.ref _) (Str.ofString "place") _) _ _ _); k_dflt (refine g_place (by assumption) (by assumption) (by k_asm) (by k_asm) ?N ?_; (case N => first | k_asm | exact News.tl (by k_asm) | exact News.tl (News.tl (by k_asm)) | exact News.tl (News.tl (News.tl (by k_asm))))); intro _)
  k_with "setAttr ref" => ((with_reducible show wpAny _ _ (setAttr (Value.ref _) (Str.ofString "chunk") _) _ _ _); (with_reducible rename LedR _ _ _ _ _ _ _ _ _ _ _ _ _ _ => hLo); k_dflt (refine s_chunk hLo (by k_asm) (by k_asm) ?N ?_; (case N => first | k_asm | exact News.tl (by k_asm) | exact News.tl (News.tl (by k_asm)) | exact News.tl (News.tl (News.tl (by k_asm))))); intro h' n' F' N' hL'; (try k_sweep); clear hLo)
  k_with "setAttr ref" => ((with_reducible show wpAny _ _ (setAttr (Value.ref _) (Str.ofString "chunk") (Value.str (Str.ofString "") _)) _ _ _); (with_reducible rename LedR _ _ _ _ _ _ _ _ _ _ _ _ _ _ => hLo); k_dflt (refine s_chunk0 hLo (by k_asm) (by k_asm) ?N ?_; (case N => first | k_asm | exact News.tl (by k_asm) | exact News.tl (News.tl (by k_asm)) | exact News.tl (News.tl (News.tl (by k_asm))))); intro h' n' F' N' hL'; (try k_sweep); clear hLo)
  k_with "setAttr ref" => ((with_reducible show wpAny _ _ (setAttr (Value.ref _) (Str.ofString "chunkSize") _) _ _ _); (with_reducible rename LedR _ _ _ _ _ _ _ _ _ _ _ _ _ _ => hLo); k_dflt (refine s_size hLo (by k_asm) (by k_asm) ?N ?_; (case N => first | k_asm | exact News.tl (by k_asm) | exact News.tl (News.tl (by k_asm)) | exact News.tl (News.tl (News.tl (by k_asm))))); intro h' n' F' N' hL'; (try k_sweep); clear hLo)
  k_with "setAttr ref" => ((with_reducible show wpAny _ _ (setAttr (Value.ref _) (Str.ofString "chunkOffset") _) _ _ _); (with_reducible rename LedR _ _ _ _ _ _ _ _ _ _ _ _ _ _ => hLo); k_dflt (refine s_off hLo (by k_asm) (by k_asm) ?N ?_; (case N => first | k_asm | exact News.tl (by k_asm) | exact News.tl (News.tl (by k_asm)) | exact News.tl (News.tl (News.tl (by k_asm))))); intro h' n' F' N' hL'; (try k_sweep); clear hLo)
  k_with "setAttr ref" => ((with_reducible show wpAny _ _ (setAttr (Value.ref _) (Str.ofString "prevNumLines") _) _ _ _); (with_reducible rename LedR _ _ _ _ _ _ _ _ _ _ _ _ _ _ => hLo); k_dflt (refine s_pl hLo (by k_asm) (by k_asm) ?N ?_; (case N => first | k_asm | exact News.tl (by k_asm) | exact News.tl (News.tl (by k_asm)) | exact News.tl (News.tl (News.tl (by k_asm))))); intro h' n' F' N' hL'; (try k_sweep); clear hLo)
  k_with "setAttr ref" => ((with_reducible show wpAny _ _ (setAttr (Value.ref _) (Str.ofString "prevNumCols") _) _ _ _); (with_reducible rename LedR _ _ _ _ _ _ _ _ _ _ _ _ _ _ => hLo); k_dflt (refine s_pc hLo (by k_asm) (by k_asm) ?N ?_; (case N => first | k_asm | exact News.tl (by k_asm) | exact News.tl (News.tl (by k_asm)) | exact News.tl (News.tl (News.tl (by k_asm))))); intro h' n' F' N' hL'; (try k_sweep); clear hLo)
  k_with "setAttr ref" => ((with_reducible show wpAny _ _ (setAttr (Value.ref _) (Str.ofString "_bufferedCharacter") _) _ _ _); (with_reducible rename LedR _ _ _ _ _ _ _ _ _ _ _ _ _ _ => hLo); k_dflt (refine s_buf (by first | exact BufIs.none | exact BufIs.some | assumption) hLo (by k_asm) (by k_asm) ?N ?_; (case N => first | k_asm | exact News.tl (by k_asm) | exact News.tl (News.tl (by k_asm)) | exact News.tl (News.tl (News.tl (by k_asm))))); intro h' n' F' N' hL'; (try k_sweep); clear hLo)
  k_with "setAttr ref" => ((with_reducible show wpAny _ _ (setAttr (Value.ref _) (Str.ofString "place") _) _ _ _); (with_reducible rename LedR _ _ _ _ _ _ _ _ _ _ _ _ _ _ => hLo); k_dflt (refine s_place hLo (by assumption) (by k_asm) (by k_asm) ?N ?_; (case N => first | k_asm | exact News.tl (by k_asm) | exact News.tl (News.tl (by k_asm)) | exact News.tl (News.tl (News.tl (by k_asm))))); intro h' n' F' N' hL'; (try k_sweep); clear hLo)
  k_with "getMethod ref" => ((with_reducible show wpAny _ _ (getMethod (Value.ref _) (Str.ofString "_position") _) _ _ _); k_dflt (refine m_pos_ (by assumption) (by k_asm) (by k_asm) ?N ?_; (case N => first | k_asm | exact News.tl (by k_asm) | exact News.tl (News.tl (by k_asm)) | exact News.tl (News.tl (News.tl (by k_asm))))))
  k_with "getMethod ref" => ((with_reducible show wpAny _ _ (getMethod (Value.ref _) (Str.ofString "position") _) _ _ _); k_dflt (refine m_pos (by assumption) (by k_asm) (by k_asm) ?N ?_; (case N => first | k_asm | exact News.tl (by k_asm) | exact News.tl (News.tl (by k_asm)) | exact News.tl (News.tl (News.tl (by k_asm))))))
  k_with "getMethod ref" => ((with_reducible show wpAny _ _ (getMethod (Value.ref _) (Str.ofString "char") _) _ _ _); k_dflt (refine m_char (by assumption) (by k_asm) (by k_asm) ?N ?_; (case N => first | k_asm | exact News.tl (by k_asm) | exact News.tl (News.tl (by k_asm)) | exact News.tl (News.tl (News.tl (by k_asm))))))
  k_with "getMethod ref" => ((with_reducible show wpAny _ _ (getMethod (Value.ref _) (Str.ofString "readChunk") _) _ _ _); k_dflt (refine m_chunk (by assumption) (by k_asm) (by k_asm) ?N ?_; (case N => first | k_asm | exact News.tl (by k_asm) | exact News.tl (News.tl (by k_asm)) | exact News.tl (News.tl (News.tl (by k_asm))))))
  k_with "getMethod ref" => ((with_reducible show wpAny _ _ (getMethod (Value.ref _) (Str.ofString "unget") _) _ _ _); k_dflt (refine m_unget (by assumption) (by k_asm) (by k_asm) ?N ?_; (case N => first | k_asm | exact News.tl (by k_asm) | exact News.tl (News.tl (by k_asm)) | exact News.tl (News.tl (News.tl (by k_asm))))))
  k_with "getMethod ref" => ((with_reducible show wpAny _ _ (getMethod (Value.ref _) (Str.ofString "charsUntil") _) _ _ _); k_dflt (refine m_until (by assumption) (by k_asm) (by k_asm) ?N ?_; (case N => first | k_asm | exact News.tl (by k_asm) | exact News.tl (News.tl (by k_asm)) | exact News.tl (News.tl (News.tl (by k_asm))))))
  k_with "getMethod ref" => ((with_reducible show wpAny _ _ (getMethod (Value.ref _) (Str.ofString "read") _) _ _ _); k_dflt (refine m_read (by assumption) (by assumption) (by k_asm) (by k_asm) ?N ?_; (case N => first | k_asm | exact News.tl (by k_asm) | exact News.tl (News.tl (by k_asm)) | exact News.tl (News.tl (News.tl (by k_asm))))))
  k_with "getMethod ref" => ((with_reducible show wpAny _ _ (getMethod (Value.ref _) (Str.ofString "reportCharacterErrors") _) _ _ _); k_dflt (refine m_rep (by assumption) (by k_asm) (by k_asm) ?N ?_; (case N => first | k_asm | exact News.tl (by k_asm) | exact News.tl (News.tl (by k_asm)) | exact News.tl (News.tl (News.tl (by k_asm))))); intro _ hR1)
  k_with "getMethod ref" => ((with_reducible show wpAny _ _ (getMethod (Value.ref _) (Str.ofString "append") _) _ _ _); k_dflt (refine m_append (by assumption) (by assumption) (by k_asm) (by k_asm) ?N ?_; (case N => first | k_asm | exact News.tl (by k_asm) | exact News.tl (News.tl (by k_asm)) | exact News.tl (News.tl (News.tl (by k_asm))))))
  k_with "call builtin:list.append" => ((with_reducible rename LedR _ _ _ _ _ _ _ _ _ _ _ _ _ _ => hLo); k_dflt (refine app_err hLo (by assumption) (by k_asm) (by k_asm) ?N (by lia) ?_; (case N => first | k_asm | exact News.tl (by k_asm) | exact News.tl (News.tl (by k_asm)) | exact News.tl (News.tl (News.tl (by k_asm))))); intro h' n' F' N' hL'; (try k_sweep); clear hLo)
  k_with "call ref" => ((with_reducible show wpAny _ _ (call (Value.ref 84) _) _ _ _); k_dflt ((refine' Spec.usePos (pos_spec (by assumption) o _ ho hsz) rfl ?B ?F ?X ?N ?T ?hk ?hd ?hu ?_); (case B => k_asm); (case F => k_asm); (case X => k_asm); (case T => k_asm); (case hk => first | exact rfl | assumption); (case N => first | k_asm | exact News.tl (by k_asm) | exact News.tl (News.tl (by k_asm)) | exact News.tl (News.tl (News.tl (by k_asm)))); (case hd => ktr_room); (case hu => ktr_units); intro D' ta' tb' h' tk' hlt' hle' F' N'; (try dsimp only); (try k_fold)))
  k_dflt (k_extra "enter")
  (rename Fr _ _ _ _ => F1)
  (with_unfolding_all change Fr _ _ _ (fun y => List.lookup y [(Str.ofString "self", Value.ref x)]) at F1)
  k_steps
  all_goals (
    refine hret _ _ _ _ ⟨_, _, _, _, _, rfl, ?_, rfl, ?_, rfl⟩ (by assumption) (News.dr (by assumption))
    · first | exact kst_ltOf (And.right (by assumption)) | assumption
    · rfl)
end
section
variable {w : World} {mean : ExcName → Option Value} {mg mb : Str → Option Value} {R : List Nat} {rest : List (Addr × Obj)} {ad : List Nat} {x xT : Nat} {ck : List Nat} {sz of : Int} {er : Nat} {pl pc : Int} {bf : Option Nat} {pla : Nat} {news : List (Addr × Obj)}
set_option maxRecDepth 100000 in
set_option maxHeartbeats 8000000 in
theorem inv_spec (c : Nat) (t : Tok) (news : List (Addr × Obj)) : Spec w mean mg mb 49 [.int (c : Int) t] 5 30 news (fun v n => v = .bool (isInv c) ∧ n = news) := by
  refine Spec.of ?_
  intro dp un gd cn cs a ccd cl outer A₀ base h₀ L m s Q E B F X N T hk hd hu hret
  k_with_none
  k_with "tb" => (first | assumption | (apply le3; assumption; exact rfl) | lia | (simp only [List.length_append, List.length_cons, List.length_nil, List.length_take, List.length_drop, List.length_dropLast, crs_len, partOf_len] at *; lia) | ((with_reducible refine Nat.le_trans (crlf_len _) ?_); tb_start) | ((with_reducible refine Nat.le_trans (split_len _) ?_); tb_start) | ((with_reducible refine Nat.le_trans (norm_len _) ?_); tb_start))
  k_with "call builtin:str.count" => (refine count4 (by decide +kernel) (by first | assumption | lia) ?_)
  k_with "call builtin:str.rfind" => (refine rfind4 (by decide +kernel) (by first | assumption | lia) ?_)
  k_with "call builtin:str.replace" => ((try dsimp only at *); k_dflt (refine repl_crlf_S (by decide +kernel) (by decide +kernel) (by k_ne) (by k_ne) (by k_ne) (by tb_start) ?_); intro _ _ _)
  k_with "call builtin:str.replace" => ((try dsimp only at *); k_dflt (refine repl_cr_S (by decide +kernel) (by decide +kernel) (by k_ne) (by k_ne) (by k_ne) (by tb_start) ?_); intro _ _ _)
  k_with "call builtin:len" => ((with_reducible show wpAny _ _ (call (Value.builtin "len") [Value.str (S _) _]) _ _ _); refine len_S (by tb_start) ?_)
  k_with "call builtin:ord" => ((with_reducible show wpAny _ _ (call (Value.builtin "ord") [Value.str (S _) _]) _ _ _); refine ord_S ?_)
  k_with "binaryOp Add str str" => ((with_reducible show wpAny _ _ (binaryOp Operator.Add (Value.str (S _) _) (Value.str (S _) _)) _ _ _); refine add_S (by tb_start) ?_; intro _ _)
  k_with "inplaceOp Add str str" => ((with_reducible show wpAny _ _ (inplaceOp Operator.Add (Value.str (S _) _) (Value.str (S _) _)) _ _ _); refine iadd_S (by tb_start) ?_; intro _ _)
  k_with "truthy str" => ((with_reducible show wpAny _ _ (truthy (Value.str (S _) _)) _ _ _); refine truthy_S (by tb_start) ?_)
  k_with "compareOp Eq str str" => ((with_reducible show wpAny _ _ (compareOp CmpOp.Eq (Value.str (S _) _) (Value.str (S _) _)) _ _ _); refine eq_S ?_)
  k_with "compareOp NotEq str str" => ((with_reducible show wpAny _ _ (compareOp CmpOp.NotEq (Value.str (S _) _) (Value.str (S _) _)) _ _ _); refine ne_S ?_)
  k_with "subscriptTail Name Slice str ref" => (k_here; (with_reducible rename Fr _ _ _ _ => F'); (with_reducible rename News _ _ _ _ => N'); k_dflt (refine drop_S (s := ⟨_, _, _, _, _⟩) F' N' (by tb_start) ?_); intro _ _ _ _ _; (try k_sweep))
  k_with "subscriptTail Name Slice str ref" => (k_here; (with_reducible rename Fr _ _ _ _ => F'); (with_reducible rename News _ _ _ _ => N'); k_dflt (refine take_S (s := ⟨_, _, _, _, _⟩) F' N' (by tb_start) ?_); intro _ _ _ _ _; (try k_sweep))
  k_with "subscriptTail Name Slice str ref" => (k_here; (with_reducible rename Fr _ _ _ _ => F'); (with_reducible rename News _ _ _ _ => N'); k_dflt (refine mid_S (s := ⟨_, _, _, _, _⟩) F' N' (by tb_start) ?_); intro _ _ _ _ _; (try k_sweep))
  k_with "subscriptTail Name Slice str ref" => (k_here; (with_reducible rename Fr _ _ _ _ => F'); (with_reducible rename News _ _ _ _ => N'); k_dflt (refine part_S (s := ⟨_, _, _, _, _⟩) F' N' (by tb_start) ?_); intro _ _ _ _ _; (try k_sweep))
  k_with "subscriptTail Name Slice str ref" => (k_here; (with_reducible rename Fr _ _ _ _ => F'); (with_reducible rename News _ _ _ _ => N'); k_dflt (refine init_S (s := ⟨_, _, _, _, _⟩) F' N' (by tb_start) ?_); intro _ _ _ _ _; (try k_sweep))
  k_with "subscriptTail Name UnaryOp str int" => (k_here; (with_reducible show wpAny _ _ (subscriptTail _ _ (Value.str (S _) _) (Value.int _ _)) _ _ _); k_dflt (first | (refine last_S (by first | assumption | (intro hz; simp only [hz, List.length_nil] at *; lia)) (by tb_start) ?_) | (refine item_S (by first | assumption | lia | k_extra "my item") (by tb_start) ?_)))
  k_with "subscriptTail Name Name str int" => (k_here; (with_reducible show wpAny _ _ (subscriptTail _ _ (Value.str (S _) _) (Value.int _ _)) _ _ _); first | (with_reducible refine item_S (by k_dflt (first | assumption | lia | k_extra "my item")) (by k_dflt tb_start) ?_) | k_dflt (refine item_Si (by lia) (by first | lia | k_extra "my item") (by tb_start) ?_))
  k_with "subscriptTail Name Constant str int" => (k_here; (with_reducible show wpAny _ _ (subscriptTail _ _ (Value.str (S _) _) (Value.int _ _)) _ _ _); first | (with_reducible refine item_S (by k_dflt (first | assumption | lia | k_extra "my item")) (by k_dflt tb_start) ?_) | k_dflt (refine item_Si (by lia) (by first | lia | k_extra "my item") (by tb_start) ?_))
  k_with "subscriptTail Name BinOp str int" => (k_here; (with_reducible show wpAny _ _ (subscriptTail _ _ (Value.str (S _) _) (Value.int _ _)) _ _ _); first | (with_reducible refine item_S (by k_dflt (first | assumption | lia | k_extra "my item")) (by k_dflt tb_start) ?_) | k_dflt (refine item_Si (by lia) (by first | lia | k_extra "my item") (by tb_start) ?_))
  k_with "subscriptTail Attribute Name str int" => (k_here; (with_reducible show wpAny _ _ (subscriptTail _ _ (Value.str (S _) _) (Value.int _ _)) _ _ _); first | (with_reducible refine item_S (by k_dflt (first | assumption | lia | k_extra "my item")) (by k_dflt tb_start) ?_) | k_dflt (refine item_Si (by lia) (by first | lia | k_extra "my item") (by tb_start) ?_))
  k_with "subscriptTail Attribute Constant str int" => (k_here; (with_reducible show wpAny _ _ (subscriptTail _ _ (Value.str (S _) _) (Value.int _ _)) _ _ _); first | (with_reducible refine item_S (by k_dflt (first | assumption | lia | k_extra "my item")) (by k_dflt tb_start) ?_) | k_dflt (refine item_Si (by lia) (by first | lia | k_extra "my item") (by tb_start) ?_))
  k_with "subscriptTail Attribute Attribute str int" => (k_here; (with_reducible show wpAny _ _ (subscriptTail _ _ (Value.str (S _) _) (Value.int _ _)) _ _ _); first | (with_reducible refine item_S (by k_dflt (first | assumption | lia | k_extra "my item")) (by k_dflt tb_start) ?_) | k_dflt (refine item_Si (by lia) (by first | lia | k_extra "my item") (by tb_start) ?_))
  k_with "truthy ref" => (k_here; k_dflt (refine' truthy_meth ?N ?q ?_; (case N => k_asm); (case q => k_mem); k_whole))
  k_with "exec For Name Name cons nil" => (k_here; (with_reducible rename Fr _ _ _ _ => lF'); k_dflt (refine' For_invVF lF' ?k1 ?k2 ?_; (case k1 => exact rfl); (case k2 => exact rfl); k_whole))
  k_with "exec For Name Subscript cons nil" => (k_here; (with_reducible rename Fr _ _ _ _ => lF'); k_dflt (refine' For_invVF lF' ?k1 ?k2 ?_; (case k1 => exact rfl); (case k2 => exact rfl); k_whole))
  k_with "all" => (refine List.forall_mem_append.mpr ⟨?a, ?b⟩; (case a => k_all); (case b => k_all))
  k_with "rel" => (simp only [List.size_toArray]; rw [PySem.sizeLine_eq]; lia)
  k_with "call builtin:list.append" => (k_here; (with_reducible show wpAny _ _ (call (Value.builtin _) [Value.ref _, _]) _ _ _); k_dflt (refine' append_K ?k1 ?k2 ?k3 ?_ ?z; (case k1 => k_asm); (case k2 => k_asm); (case k3 => k_upd); (case z => tb_rel); k_whole); intro h' F' N'; (try simp only [List.push_toArray] at N'); (try k_sweep))
  k_with "enter" => (refine' code_def ?k1 ?k2 ?k3 ?k4 ?k5 ?kA ?kF ?kK ?k6 ?k7 ?k8 ?k9 ?kB ?_ ?c2 ?c3 ?c4 ?c5; (case kA => exact rfl); (case kF => exact rfl); (case kK => assumption); (case k1 => k_asm); (case k2 => k_asm); (case k3 => k_asm); (case k4 => k_asm); (case k5 => k_asm); (case k6 => k_is); (case k7 => k_is); (case k8 => ktr_room); (case k9 => first | exact BindsTo.of_eq rfl | exact binds_K (by k_in) rfl (by k_is) rfl rfl rfl); (case c5 => decide); (case kB => exact locs rfl); (case c2 => exact rfl); (case c3 => exact rfl); (case c4 => exact rfl); k_whole; intro g' L' h' FG' F' N' B' X' T'; (try dsimp only); (try k_lift B'); (try k_fold))
  k_with "JoinP" => (dsimp only [JoinP])
  k_with "subscriptTail" => (k_here; (with_reducible show wpAny _ _ (subscriptTail _ _ (Value.str (S _) _) (Value.int _ _)) _ _ _); first | (with_reducible refine item_S (by k_dflt (first | assumption | lia | k_extra "my item")) (by k_dflt tb_start) ?_) | k_dflt (refine item_Si (by lia) (by first | lia | k_extra "my item") (by tb_start) ?_))
  k_with "compareOp Eq str str" => ((with_reducible show wpAny _ _ (compareOp CmpOp.Eq (Value.str (S _) _) (Value.str (Str.ofString _) _)) _ _ _); k_dflt (first | refine eq_lit [13] (by decide +kernel) ?_ | refine eq_lit [10] (by decide +kernel) ?_))
  k_with "compareOp NotEq str str" => ((with_reducible show wpAny _ _ (compareOp CmpOp.NotEq (Value.str (S _) _) (Value.str (Str.ofString _) _)) _ _ _); k_dflt (first | refine ne_lit [13] (by decide +kernel) ?_ | refine ne_lit [10] (by decide +kernel) ?_))
  k_with "inplaceOp Add str str" => ((with_reducible show wpAny _ _ (inplaceOp Operator.Add (Value.str (S _) _) (Value.str (Str.ofString _) _)) _ _ _); k_dflt (refine iadd_lit [10] (by decide +kernel) (by tb_start) ?_); intro _ _)
  k_with "room" => (k_dflt ((first | apply room4 | apply room3 | apply room2 | apply room1 | apply room0 | apply roomz); assumption; exact rfl))
  k_with "eval BoolOp" => ((with_reducible show wpAny _ _ (eval (Expr.BoolOp BoolOp.Or [_, _, _, _, _, _, _] _) _) _ _ _); (rename Fr _ _ _ _ => F1); (rename News _ _ _ _ => N1); k_dflt (refine' join_e (fun v => v = .bool (isInv c)) ?jF ?jN ?ja ?jb); (case' jF => exact F1); (case' jN => exact N1); (case' jb => clear F1 N1; intro v h' tk' hv F' N'; subst hv; (try k_fold)))
  k_dflt (k_extra "enter")
  (rename Fr _ _ _ _ => F1)
  (with_unfolding_all change Fr _ _ _ (fun y => List.lookup y [(Str.ofString "codepoint", Value.int (c : Int) t)]) at F1)
  k_steps
  all_goals first
    | exact hret _ _ _ _ ⟨rfl, rfl⟩ (by assumption) (by assumption)
    | refine join_e_end (by assumption) (by first | assumption | exact News.tl (by assumption)) (congrArg Value.bool ?_)
  all_goals first
    | exact inv_t (.inr (.inl (by lia))) (beq_iff_eq.mpr (by assumption))
    | exact inv_t (.inr (.inr (.inr (.inr (.inr (.inl ((inv_mod (by assumption)).mp rfl))))))) (by assumption)
    | (have h6 := mt (inv_mod (by assumption)).mpr Bool.false_ne_true
       by_cases hz : (c : Int) ≤ 57343 ∧ 55296 ≤ (c : Int)
       · exact inv_t (.inr (.inr (.inr (.inr (.inr (.inr ⟨by lia, by lia⟩)))))) (decide_eq_true (by lia))
       · exact inv_f (by lia) (by lia) (by lia) (by lia) (by lia) h6 (by lia) (decide_eq_false (by lia)))
    | exact inv_t (.inl ⟨by lia, by lia⟩) (decide_eq_true (by assumption))
    | exact inv_t (.inr (.inr (.inl ⟨by lia, by lia⟩))) (decide_eq_true (by assumption))
    | exact inv_t (.inr (.inr (.inr (.inl ⟨by lia, by lia⟩)))) (decide_eq_true (by assumption))
    | exact inv_t (.inr (.inr (.inr (.inr (.inl ⟨by lia, by lia⟩))))) (decide_eq_true (by assumption))
    | trace_state

set_option maxRecDepth 100000 in
set_option maxHeartbeats 8000000 in
theorem read_spec (hL : LedR w R rest ad x ck sz of er pl pc bf (pla : Int) news) (hT : ad[1]? = some xT) (size : Nat) (t : Tok) (hR : R.length ≤ 1000) (hp : pla ≤ 1000) (hsz : size ≤ 100000) :
    Spec w mean mg mb 35 [.ref xT, .int (size : Int) t] 5 60 news (fun v n => (∃ t', v = .str (S (partOf R size pla)) t') ∧ LedR w R rest ad x ck sz of er pl pc bf ((pla + (partOf R size pla).length : Nat) : Int) n) := by
  refine Spec.of ?_
  intro dp un gd cn cs a ccd cl outer A₀ base h₀ L m s Q E B F X N T hk hd hu hret
  k_with_none
  k_with "tb" => (first | assumption | (apply le3; assumption; exact rfl) | lia | (simp only [List.length_append, List.length_cons, List.length_nil, List.length_take, List.length_drop, List.length_dropLast, crs_len, partOf_len] at *; lia) | ((with_reducible refine Nat.le_trans (crlf_len _) ?_); tb_start) | ((with_reducible refine Nat.le_trans (split_len _) ?_); tb_start) | ((with_reducible refine Nat.le_trans (norm_len _) ?_); tb_start))
  k_with "call builtin:str.count" => (refine count4 (by decide +kernel) (by first | assumption | lia) ?_)
  k_with "call builtin:str.rfind" => (refine rfind4 (by decide +kernel) (by first | assumption | lia) ?_)
  k_with "call builtin:str.replace" => ((try dsimp only at *); k_dflt (refine repl_crlf_S (by decide +kernel) (by decide +kernel) (by k_ne) (by k_ne) (by k_ne) (by tb_start) ?_); intro _ _ _)
  k_with "call builtin:str.replace" => ((try dsimp only at *); k_dflt (refine repl_cr_S (by decide +kernel) (by decide +kernel) (by k_ne) (by k_ne) (by k_ne) (by tb_start) ?_); intro _ _ _)
  k_with "call builtin:len" => ((with_reducible show wpAny _ _ (call (Value.builtin "len") [Value.str (S _) _]) _ _ _); refine len_S (by tb_start) ?_)
  k_with "call builtin:ord" => ((with_reducible show wpAny _ _ (call (Value.builtin "ord") [Value.str (S _) _]) _ _ _); refine ord_S ?_)
  k_with "binaryOp Add str str" => ((with_reducible show wpAny _ _ (binaryOp Operator.Add (Value.str (S _) _) (Value.str (S _) _)) _ _ _); refine add_S (by tb_start) ?_; intro _ _)
  k_with "inplaceOp Add str str" => ((with_reducible show wpAny _ _ (inplaceOp Operator.Add (Value.str (S _) _) (Value.str (S _) _)) _ _ _); refine iadd_S (by tb_start) ?_; intro _ _)
  k_with "truthy str" => ((with_reducible show wpAny _ _ (truthy (Value.str (S _) _)) _ _ _); refine truthy_S (by tb_start) ?_)
  k_with "compareOp Eq str str" => ((with_reducible show wpAny _ _ (compareOp CmpOp.Eq (Value.str (S _) _) (Value.str (S _) _)) _ _ _); refine eq_S ?_)
  k_with "compareOp NotEq str str" => ((with_reducible show wpAny _ _ (compareOp CmpOp.NotEq (Value.str (S _) _) (Value.str (S _) _)) _ _ _); refine ne_S ?_)
  k_with "subscriptTail Name Slice str ref" => (k_here; (with_reducible rename Fr _ _ _ _ => F'); (with_reducible rename News _ _ _ _ => N'); k_dflt (refine drop_S (s := ⟨_, _, _, _, _⟩) F' N' (by tb_start) ?_); intro _ _ _ _ _; (try k_sweep))
  k_with "subscriptTail Name Slice str ref" => (k_here; (with_reducible rename Fr _ _ _ _ => F'); (with_reducible rename News _ _ _ _ => N'); k_dflt (refine take_S (s := ⟨_, _, _, _, _⟩) F' N' (by tb_start) ?_); intro _ _ _ _ _; (try k_sweep))
  k_with "subscriptTail Name Slice str ref" => (k_here; (with_reducible rename Fr _ _ _ _ => F'); (with_reducible rename News _ _ _ _ => N'); k_dflt (refine mid_S (s := ⟨_, _, _, _, _⟩) F' N' (by tb_start) ?_); intro _ _ _ _ _; (try k_sweep))
  k_with "subscriptTail Name Slice str ref" => (k_here; (with_reducible rename Fr _ _ _ _ => F'); (with_reducible rename News _ _ _ _ => N'); k_dflt (refine part_S (s := ⟨_, _, _, _, _⟩) F' N' (by tb_start) ?_); intro _ _ _ _ _; (try k_sweep))
  k_with "subscriptTail Name Slice str ref" => (k_here; (with_reducible rename Fr _ _ _ _ => F'); (with_reducible rename News _ _ _ _ => N'); k_dflt (refine init_S (s := ⟨_, _, _, _, _⟩) F' N' (by tb_start) ?_); intro _ _ _ _ _; (try k_sweep))
  k_with "subscriptTail Name UnaryOp str int" => (k_here; (with_reducible show wpAny _ _ (subscriptTail _ _ (Value.str (S _) _) (Value.int _ _)) _ _ _); k_dflt (first | (refine last_S (by first | assumption | (intro hz; simp only [hz, List.length_nil] at *; lia)) (by tb_start) ?_) | (refine item_S (by first | assumption | lia | k_extra "my item") (by tb_start) ?_)))
  k_with "subscriptTail Name Name str int" => (k_here; (with_reducible show wpAny _ _ (subscriptTail _ _ (Value.str (S _) _) (Value.int _ _)) _ _ _); first | (with_reducible refine item_S (by k_dflt (first | assumption | lia | k_extra "my item")) (by k_dflt tb_start) ?_) | k_dflt (refine item_Si (by lia) (by first | lia | k_extra "my item") (by tb_start) ?_))
  k_with "subscriptTail Name Constant str int" => (k_here; (with_reducible show wpAny _ _ (subscriptTail _ _ (Value.str (S _) _) (Value.int _ _)) _ _ _); first | (with_reducible refine item_S (by k_dflt (first | assumption | lia | k_extra "my item")) (by k_dflt tb_start) ?_) | k_dflt (refine item_Si (by lia) (by first | lia | k_extra "my item") (by tb_start) ?_))
  k_with "subscriptTail Name BinOp str int" => (k_here; (with_reducible show wpAny _ _ (subscriptTail _ _ (Value.str (S _) _) (Value.int _ _)) _ _ _); first | (with_reducible refine item_S (by k_dflt (first | assumption | lia | k_extra "my item")) (by k_dflt tb_start) ?_) | k_dflt (refine item_Si (by lia) (by first | lia | k_extra "my item") (by tb_start) ?_))
  k_with "subscriptTail Attribute Name str int" => (k_here; (with_reducible show wpAny _ _ (subscriptTail _ _ (Value.str (S _) _) (Value.int _ _)) _ _ _); first | (with_reducible refine item_S (by k_dflt (first | assumption | lia | k_extra "my item")) (by k_dflt tb_start) ?_) | k_dflt (refine item_Si (by lia) (by first | lia | k_extra "my item") (by tb_start) ?_))
  k_with "subscriptTail Attribute Constant str int" => (k_here; (with_reducible show wpAny _ _ (subscriptTail _ _ (Value.str (S _) _) (Value.int _ _)) _ _ _); first | (with_reducible refine item_S (by k_dflt (first | assumption | lia | k_extra "my item")) (by k_dflt tb_start) ?_) | k_dflt (refine item_Si (by lia) (by first | lia | k_extra "my item") (by tb_start) ?_))
  k_with "subscriptTail Attribute Attribute str int" => (k_here; (with_reducible show wpAny _ _ (subscriptTail _ _ (Value.str (S _) _) (Value.int _ _)) _ _ _); first | (with_reducible refine item_S (by k_dflt (first | assumption | lia | k_extra "my item")) (by k_dflt tb_start) ?_) | k_dflt (refine item_Si (by lia) (by first | lia | k_extra "my item") (by tb_start) ?_))
  k_with "truthy ref" => (k_here; k_dflt (refine' truthy_meth ?N ?q ?_; (case N => k_asm); (case q => k_mem); k_whole))
  k_with "exec For Name Name cons nil" => (k_here; (with_reducible rename Fr _ _ _ _ => lF'); k_dflt (refine' For_invVF lF' ?k1 ?k2 ?_; (case k1 => exact rfl); (case k2 => exact rfl); k_whole))
  k_with "exec For Name Subscript cons nil" => (k_here; (with_reducible rename Fr _ _ _ _ => lF'); k_dflt (refine' For_invVF lF' ?k1 ?k2 ?_; (case k1 => exact rfl); (case k2 => exact rfl); k_whole))
  k_with "all" => (refine List.forall_mem_append.mpr ⟨?a, ?b⟩; (case a => k_all); (case b => k_all))
  k_with "rel" => (simp only [List.size_toArray]; rw [PySem.sizeLine_eq]; lia)
  k_with "call builtin:list.append" => (k_here; (with_reducible show wpAny _ _ (call (Value.builtin _) [Value.ref _, _]) _ _ _); k_dflt (refine' append_K ?k1 ?k2 ?k3 ?_ ?z; (case k1 => k_asm); (case k2 => k_asm); (case k3 => k_upd); (case z => tb_rel); k_whole); intro h' F' N'; (try simp only [List.push_toArray] at N'); (try k_sweep))
  k_with "enter" => (refine' code_def ?k1 ?k2 ?k3 ?k4 ?k5 ?kA ?kF ?kK ?k6 ?k7 ?k8 ?k9 ?kB ?_ ?c2 ?c3 ?c4 ?c5; (case kA => exact rfl); (case kF => exact rfl); (case kK => assumption); (case k1 => k_asm); (case k2 => k_asm); (case k3 => k_asm); (case k4 => k_asm); (case k5 => k_asm); (case k6 => k_is); (case k7 => k_is); (case k8 => ktr_room); (case k9 => first | exact BindsTo.of_eq rfl | exact binds_K (by k_in) rfl (by k_is) rfl rfl rfl); (case c5 => decide); (case kB => exact locs rfl); (case c2 => exact rfl); (case c3 => exact rfl); (case c4 => exact rfl); k_whole; intro g' L' h' FG' F' N' B' X' T'; (try dsimp only); (try k_lift B'); (try k_fold))
  k_with "JoinP" => (dsimp only [JoinP])
  k_with "subscriptTail" => (k_here; (with_reducible show wpAny _ _ (subscriptTail _ _ (Value.str (S _) _) (Value.int _ _)) _ _ _); first | (with_reducible refine item_S (by k_dflt (first | assumption | lia | k_extra "my item")) (by k_dflt tb_start) ?_) | k_dflt (refine item_Si (by lia) (by first | lia | k_extra "my item") (by tb_start) ?_))
  k_with "compareOp Eq str str" => ((with_reducible show wpAny _ _ (compareOp CmpOp.Eq (Value.str (S _) _) (Value.str (Str.ofString _) _)) _ _ _); k_dflt (first | refine eq_lit [13] (by decide +kernel) ?_ | refine eq_lit [10] (by decide +kernel) ?_))
  k_with "compareOp NotEq str str" => ((with_reducible show wpAny _ _ (compareOp CmpOp.NotEq (Value.str (S _) _) (Value.str (Str.ofString _) _)) _ _ _); k_dflt (first | refine ne_lit [13] (by decide +kernel) ?_ | refine ne_lit [10] (by decide +kernel) ?_))
  k_with "inplaceOp Add str str" => ((with_reducible show wpAny _ _ (inplaceOp Operator.Add (Value.str (S _) _) (Value.str (Str.ofString _) _)) _ _ _); k_dflt (refine iadd_lit [10] (by decide +kernel) (by tb_start) ?_); intro _ _)
  k_with "room" => (k_dflt ((first | apply room4 | apply room3 | apply room2 | apply room1 | apply room0 | apply roomz); assumption; exact rfl))
  k_with "getAttr ref" => ((with_reducible show wpAny _ _ (getAttr (Value.ref _) (Str.ofString "chunk") _) _ _ _); k_dflt (refine g_chunk (by assumption) (by k_asm) (by k_asm) ?N ?_; (case N => first | k_asm | exact News.tl (by k_asm) | exact News.tl (News.tl (by k_asm)) | exact News.tl (News.tl (News.tl (by k_asm))))); intro _)
  k_with "getAttr ref" => ((with_reducible show wpAny _ _ (getAttr (Value.ref _) (Str.ofString "chunkSize") _) _ _ _); k_dflt (refine g_size (by assumption) (by k_asm) (by k_asm) ?N ?_; (case N => first | k_asm | exact News.tl (by k_asm) | exact News.tl (News.tl (by k_asm)) | exact News.tl (News.tl (News.tl (by k_asm))))); intro _)
  k_with "getAttr ref" => ((with_reducible show wpAny _ _ (getAttr (Value.ref _) (Str.ofString "chunkOffset") _) _ _ _); k_dflt (refine g_off (by assumption) (by k_asm) (by k_asm) ?N ?_; (case N => first | k_asm | exact News.tl (by k_asm) | exact News.tl (News.tl (by k_asm)) | exact News.tl (News.tl (News.tl (by k_asm))))); intro _)
  k_with "getAttr ref" => ((with_reducible show wpAny _ _ (getAttr (Value.ref _) (Str.ofString "prevNumLines") _) _ _ _); k_dflt (refine g_pl (by assumption) (by k_asm) (by k_asm) ?N ?_; (case N => first | k_asm | exact News.tl (by k_asm) | exact News.tl (News.tl (by k_asm)) | exact News.tl (News.tl (News.tl (by k_asm))))); intro _)
  k_with "getAttr ref" => ((with_reducible show wpAny _ _ (getAttr (Value.ref _) (Str.ofString "prevNumCols") _) _ _ _); k_dflt (refine g_pc (by assumption) (by k_asm) (by k_asm) ?N ?_; (case N => first | k_asm | exact News.tl (by k_asm) | exact News.tl (News.tl (by k_asm)) | exact News.tl (News.tl (News.tl (by k_asm))))); intro _)
  k_with "getAttr ref" => ((with_reducible show wpAny _ _ (getAttr (Value.ref _) (Str.ofString "errors") _) _ _ _); k_dflt (refine g_errors (by assumption) (by k_asm) (by k_asm) ?N ?_; (case N => first | k_asm | exact News.tl (by k_asm) | exact News.tl (News.tl (by k_asm)) | exact News.tl (News.tl (News.tl (by k_asm))))); intro _ hE1)
  k_with "getAttr ref" => ((with_reducible show wpAny _ _ (getAttr (Value.ref _) (Str.ofString "dataStream") _) _ _ _); k_dflt (refine g_stream (by assumption) (by k_asm) (by k_asm) ?N ?_; (case N => first | k_asm | exact News.tl (by k_asm) | exact News.tl (News.tl (by k_asm)) | exact News.tl (News.tl (News.tl (by k_asm))))); intro _ hT1)
  k_with "getAttr ref" => ((with_reducible show wpAny _ _ (getAttr (Value.ref _) (Str.ofString "_bufferedCharacter") _) _ _ _); k_dflt (refine g_buf (by assumption) (by k_asm) (by k_asm) ?N ?_; (case N => first | k_asm | exact News.tl (by k_asm) | exact News.tl (News.tl (by k_asm)) | exact News.tl (News.tl (News.tl (by k_asm))))); intro _ hB1; (try cases hB1))
  k_with "getAttr ref" => ((with_reducible show wpAny _ _ (getAttr (Value.ref _) (Str.ofString "reportCharacterErrors") _) _ _ _); k_dflt (refine g_rep (by assumption) (by k_asm) (by k_asm) ?N ?_; (case N => first | k_asm | exact News.tl (by k_asm) | exact News.tl (News.tl (by k_asm)) | exact News.tl (News.tl (News.tl (by k_asm))))); intro _ hR1)
  k_with "getAttr ref" => ((with_reducible show wpAny _ _ (getAttr (Value.ref _) (Str.ofString "_defaultChunkSize") _) _ _ _); k_dflt (refine g_dflt (by assumption) (by k_asm) (by k_asm) ?N ?_; (case N => first | k_asm | exact News.tl (by k_asm) | exact News.tl (News.tl (by k_asm)) | exact News.tl (News.tl (News.tl (by k_asm))))); intro _)
  k_with "getAttr ref" => ((with_reducible show wpAny _ _ (getAttr (Value.ref _) (Str.ofString "text") _) _ _ _); k_dflt (refine g_text (by assumption) (by assumption) (by k_asm) (by k_asm) ?N ?_; (case N => first | k_asm | exact News.tl (by k_asm) | exact News.tl (News.tl (by k_asm)) | exact News.tl (News.tl (News.tl (by k_asm))))); intro _)
  k_with "getAttr ref" => ((with_reducible show wpAny _ _ (getAttr (Value.ref _) (Str.ofString "place") _) _ _ _); k_dflt (refine g_place (by assumption) (by assumption) (by k_asm) (by k_asm) ?N ?_; (case N => first | k_asm | exact News.tl (by k_asm) | exact News.tl (News.tl (by k_asm)) | exact News.tl (News.tl (News.tl (by k_asm))))); intro _)
  k_with "setAttr ref" => ((with_reducible show wpAny _ _ (setAttr (Value.ref _) (Str.ofString "chunk") _) _ _ _); (with_reducible rename LedR _ _ _ _ _ _ _ _ _ _ _ _ _ _ => hLo); k_dflt (refine s_chunk hLo (by k_asm) (by k_asm) ?N ?_; (case N => first | k_asm | exact News.tl (by k_asm) | exact News.tl (News.tl (by k_asm)) | exact News.tl (News.tl (News.tl (by k_asm))))); intro h' n' F' N' hL'; (try k_sweep); clear hLo)
  k_with "setAttr ref" => ((with_reducible show wpAny _ _ (setAttr (Value.ref _) (Str.ofString "chunk") (Value.str (Str.ofString "") _)) _ _ _); (with_reducible rename LedR _ _ _ _ _ _ _ _ _ _ _ _ _ _ => hLo); k_dflt (refine s_chunk0 hLo (by k_asm) (by k_asm) ?N ?_; (case N => first | k_asm | exact News.tl (by k_asm) | exact News.tl (News.tl (by k_asm)) | exact News.tl (News.tl (News.tl (by k_asm))))); intro h' n' F' N' hL'; (try k_sweep); clear hLo)
  k_with "setAttr ref" => ((with_reducible show wpAny _ _ (setAttr (Value.ref _) (Str.ofString "chunkSize") _) _ _ _); (with_reducible rename LedR _ _ _ _ _ _ _ _ _ _ _ _ _ _ => hLo); k_dflt (refine s_size hLo (by k_asm) (by k_asm) ?N ?_; (case N => first | k_asm | exact News.tl (by k_asm) | exact News.tl (News.tl (by k_asm)) | exact News.tl (News.tl (News.tl (by k_asm))))); intro h' n' F' N' hL'; (try k_sweep); clear hLo)
  k_with "setAttr ref" => ((with_reducible show wpAny _ _ (setAttr (Value.ref _) (Str.ofString "chunkOffset") _) _ _ _); (with_reducible rename LedR _ _ _ _ _ _ _ _ _ _ _ _ _ _ => hLo); k_dflt (refine s_off hLo (by k_asm) (by k_asm) ?N ?_; (case N => first | k_asm | exact News.tl (by k_asm) | exact News.tl (News.tl (by k_asm)) | exact News.tl (News.tl (News.tl (by k_asm))))); intro h' n' F' N' hL'; (try k_sweep); clear hLo)
  k_with "setAttr ref" => ((with_reducible show wpAny _ _ (setAttr (Value.ref _) (Str.ofString "prevNumLines") _) _ _ _); (with_reducible rename LedR _ _ _ _ _ _ _ _ _ _ _ _ _ _ => hLo); k_dflt (refine s_pl hLo (by k_asm) (by k_asm) ?N ?_; (case N => first | k_asm | exact News.tl (by k_asm) | exact News.tl (News.tl (by k_asm)) | exact News.tl (News.tl (News.tl (by k_asm))))); intro h' n' F' N' hL'; (try k_sweep); clear hLo)
  k_with "setAttr ref" => ((with_reducible show wpAny _ _ (setAttr (Value.ref _) (Str.ofString "prevNumCols") _) _ _ _); (with_reducible rename LedR _ _ _ _ _ _ _ _ _ _ _ _ _ _ => hLo); k_dflt (refine s_pc hLo (by k_asm) (by k_asm) ?N ?_; (case N => first | k_asm | exact News.tl (by k_asm) | exact News.tl (News.tl (by k_asm)) | exact News.tl (News.tl (News.tl (by k_asm))))); intro h' n' F' N' hL'; (try k_sweep); clear hLo)
  k_with "setAttr ref" => ((with_reducible show wpAny _ _ (setAttr (Value.ref _) (Str.ofString "_bufferedCharacter") _) _ _ _); (with_reducible rename LedR _ _ _ _ _ _ _ _ _ _ _ _ _ _ => hLo); k_dflt (refine s_buf (by first | exact BufIs.none | exact BufIs.some | assumption) hLo (by k_asm) (by k_asm) ?N ?_; (case N => first | k_asm | exact News.tl (by k_asm) | exact News.tl (News.tl (by k_asm)) | exact News.tl (News.tl (News.tl (by k_asm))))); intro h' n' F' N' hL'; (try k_sweep); clear hLo)
  k_with "setAttr ref" => ((with_reducible show wpAny _ _ (setAttr (Value.ref _) (Str.ofString "place") _) _ _ _); (with_reducible rename LedR _ _ _ _ _ _ _ _ _ _ _ _ _ _ => hLo); k_dflt (refine s_place hLo (by assumption) (by k_asm) (by k_asm) ?N ?_; (case N => first | k_asm | exact News.tl (by k_asm) | exact News.tl (News.tl (by k_asm)) | exact News.tl (News.tl (News.tl (by k_asm))))); intro h' n' F' N' hL'; (try k_sweep); clear hLo)
  k_with "getMethod ref" => ((with_reducible show wpAny _ _ (getMethod (Value.ref _) (Str.ofString "_position") _) _ _ _); k_dflt (refine m_pos_ (by assumption) (by k_asm) (by k_asm) ?N ?_; (case N => first | k_asm | exact News.tl (by k_asm) | exact News.tl (News.tl (by k_asm)) | exact News.tl (News.tl (News.tl (by k_asm))))))
  k_with "getMethod ref" => ((with_reducible show wpAny _ _ (getMethod (Value.ref _) (Str.ofString "position") _) _ _ _); k_dflt (refine m_pos (by assumption) (by k_asm) (by k_asm) ?N ?_; (case N => first | k_asm | exact News.tl (by k_asm) | exact News.tl (News.tl (by k_asm)) | exact News.tl (News.tl (News.tl (by k_asm))))))
  k_with "getMethod ref" => ((with_reducible show wpAny _ _ (getMethod (Value.ref _) (Str.ofString "char") _) _ _ _); k_dflt (refine m_char (by assumption) (by k_asm) (by k_asm) ?N ?_; (case N => first | k_asm | exact News.tl (by k_asm) | exact News.tl (News.tl (by k_asm)) | exact News.tl (News.tl (News.tl (by k_asm))))))
  k_with "getMethod ref" => ((with_reducible show wpAny _ _ (getMethod (Value.ref _) (Str.ofString "readChunk") _) _ _ _); k_dflt (refine m_chunk (by assumption) (by k_asm) (by k_asm) ?N ?_; (case N => first | k_asm | exact News.tl (by k_asm) | exact News.tl (News.tl (by k_asm)) | exact News.tl (News.tl (News.tl (by k_asm))))))
  k_with "getMethod ref" => ((with_reducible show wpAny _ _ (getMethod (Value.ref _) (Str.ofString "unget") _) _ _ _); k_dflt (refine m_unget (by assumption) (by k_asm) (by k_asm) ?N ?_; (case N => first | k_asm | exact News.tl (by k_asm) | exact News.tl (News.tl (by k_asm)) | exact News.tl (News.tl (News.tl (by k_asm))))))
  k_with "getMethod ref" => ((with_reducible show wpAny _ _ (getMethod (Value.ref _) (Str.ofString "charsUntil") _) _ _ _); k_dflt (refine m_until (by assumption) (by k_asm) (by k_asm) ?N ?_; (case N => first | k_asm | exact News.tl (by k_asm) | exact News.tl (News.tl (by k_asm)) | exact News.tl (News.tl (News.tl (by k_asm))))))
  k_with "getMethod ref" => ((with_reducible show wpAny _ _ (getMethod (Value.ref _) (Str.ofString "read") _) _ _ _); k_dflt (refine m_read (by assumption) (by assumption) (by k_asm) (by k_asm) ?N ?_; (case N => first | k_asm | exact News.tl (by k_asm) | exact News.tl (News.tl (by k_asm)) | exact News.tl (News.tl (News.tl (by k_asm))))))
  k_with "getMethod ref" => ((with_reducible show wpAny _ _ (getMethod (Value.ref _) (Str.ofString "reportCharacterErrors") _) _ _ _); k_dflt (refine m_rep (by assumption) (by k_asm) (by k_asm) ?N ?_; (case N => first | k_asm | exact News.tl (by k_asm) | exact News.tl (News.tl (by k_asm)) | exact News.tl (News.tl (News.tl (by k_asm))))); intro _ hR1)
  k_with "getMethod ref" => ((with_reducible show wpAny _ _ (getMethod (Value.ref _) (Str.ofString "append") _) _ _ _); k_dflt (refine m_append (by assumption) (by assumption) (by k_asm) (by k_asm) ?N ?_; (case N => first | k_asm | exact News.tl (by k_asm) | exact News.tl (News.tl (by k_asm)) | exact News.tl (News.tl (News.tl (by k_asm))))))
  k_with "call builtin:list.append" => ((with_reducible rename LedR _ _ _ _ _ _ _ _ _ _ _ _ _ _ => hLo); k_dflt (refine app_err hLo (by assumption) (by k_asm) (by k_asm) ?N (by lia) ?_; (case N => first | k_asm | exact News.tl (by k_asm) | exact News.tl (News.tl (by k_asm)) | exact News.tl (News.tl (News.tl (by k_asm))))); intro h' n' F' N' hL'; (try k_sweep); clear hLo)
  k_dflt (k_extra "enter")
  (rename Fr _ _ _ _ => F1)
  (with_unfolding_all change Fr _ _ _ (fun y => List.lookup y [(Str.ofString "size", Value.int (size : Int) t), (Str.ofString "self", Value.ref xT)]) at F1)
  k_steps
  exact hret _ _ _ _ ⟨⟨_, rfl⟩, by assumption⟩ (by assumption) (by assumption)
end
section
variable {w : World} {mean : ExcName → Option Value} {mg mb : Str → Option Value} {R : List Nat} {rest : List (Addr × Obj)} {ad : List Nat} {x xT : Nat} {ck : List Nat} {sz of : Int} {er : Nat} {pl pc : Int} {bf : Option Nat} {pla : Int} {news : List (Addr × Obj)}
set_option maxRecDepth 100000 in
set_option maxHeartbeats 8000000 in
theorem errs_spec (hL : LedR w R rest ad x ck sz of er pl pc bf pla news) (l : List Nat) (t : Tok) (hl : l.length ≤ 10000) (hE : er ≤ 100000) :
    Spec w mean mg mb 113 [.ref x, .str (S l) t] 15 90 news (fun v n => v = .none ∧ LedR w R rest ad x ck sz of (er + l.countP isInv) pl pc bf pla n) := by
  refine Spec.of ?_
  intro dp un gd cn cs a ccd cl outer A₀ base h₀ L m s Q E B F X N T hk hd hu hret
  k_with_none
  k_with "tb" => (first | assumption | (apply le3; assumption; exact rfl) | lia | (simp only [List.length_append, List.length_cons, List.length_nil, List.length_take, List.length_drop, List.length_dropLast, crs_len, partOf_len] at *; lia) | ((with_reducible refine Nat.le_trans (crlf_len _) ?_); tb_start) | ((with_reducible refine Nat.le_trans (split_len _) ?_); tb_start) | ((with_reducible refine Nat.le_trans (norm_len _) ?_); tb_start))
  k_with "call builtin:str.count" => (refine count4 (by decide +kernel) (by first | assumption | lia) ?_)
  k_with "call builtin:str.rfind" => (refine rfind4 (by decide +kernel) (by first | assumption | lia) ?_)
  k_with "call builtin:str.replace" => ((try dsimp only at *); k_dflt (refine repl_crlf_S (by decide +kernel) (by decide +kernel) (by k_ne) (by k_ne) (by k_ne) (by tb_start) ?_); intro _ _ _)
  k_with "call builtin:str.replace" => ((try dsimp only at *); k_dflt (refine repl_cr_S (by decide +kernel) (by decide +kernel) (by k_ne) (by k_ne) (by k_ne) (by tb_start) ?_); intro _ _ _)
  k_with "call builtin:len" => ((with_reducible show wpAny _ _ (call (Value.builtin "len") [Value.str (S _) _]) _ _ _); refine len_S (by tb_start) ?_)
  k_with "call builtin:ord" => ((with_reducible show wpAny _ _ (call (Value.builtin "ord") [Value.str (S _) _]) _ _ _); refine ord_S ?_)
  k_with "binaryOp Add str str" => ((with_reducible show wpAny _ _ (binaryOp Operator.Add (Value.str (S _) _) (Value.str (S _) _)) _ _ _); refine add_S (by tb_start) ?_; intro _ _)
  k_with "inplaceOp Add str str" => ((with_reducible show wpAny _ _ (inplaceOp Operator.Add (Value.str (S _) _) (Value.str (S _) _)) _ _ _); refine iadd_S (by tb_start) ?_; intro _ _)
  k_with "truthy str" => ((with_reducible show wpAny _ _ (truthy (Value.str (S _) _)) _ _ _); refine truthy_S (by tb_start) ?_)
  k_with "compareOp Eq str str" => ((with_reducible show wpAny _ _ (compareOp CmpOp.Eq (Value.str (S _) _) (Value.str (S _) _)) _ _ _); refine eq_S ?_)
  k_with "compareOp NotEq str str" => ((with_reducible show wpAny _ _ (compareOp CmpOp.NotEq (Value.str (S _) _) (Value.str (S _) _)) _ _ _); refine ne_S ?_)
  k_with "subscriptTail Name Slice str ref" => (k_here; (with_reducible rename Fr _ _ _ _ => F'); (with_reducible rename News _ _ _ _ => N'); k_dflt (refine drop_S (s := ⟨_, _, _, _, _⟩) F' N' (by tb_start) ?_); intro _ _ _ _ _; (try k_sweep))
  k_with "subscriptTail Name Slice str ref" => (k_here; (with_reducible rename Fr _ _ _ _ => F'); (with_reducible rename News _ _ _ _ => N'); k_dflt (refine take_S (s := ⟨_, _, _, _, _⟩) F' N' (by tb_start) ?_); intro _ _ _ _ _; (try k_sweep))
  k_with "subscriptTail Name Slice str ref" => (k_here; (with_reducible rename Fr _ _ _ _ => F'); (with_reducible rename News _ _ _ _ => N'); k_dflt (refine mid_S (s := ⟨_, _, _, _, _⟩) F' N' (by tb_start) ?_); intro _ _ _ _ _; (try k_sweep))
  k_with "subscriptTail Name Slice str ref" => (k_here; (with_reducible rename Fr _ _ _ _ => F'); (with_reducible rename News _ _ _ _ => N'); k_dflt (refine part_S (s := ⟨_, _, _, _, _⟩) F' N' (by tb_start) ?_); intro _ _ _ _ _; (try k_sweep))
  k_with "subscriptTail Name Slice str ref" => (k_here; (with_reducible rename Fr _ _ _ _ => F'); (with_reducible rename News _ _ _ _ => N'); k_dflt (refine init_S (s := ⟨_, _, _, _, _⟩) F' N' (by tb_start) ?_); intro _ _ _ _ _; (try k_sweep))
  k_with "subscriptTail Name UnaryOp str int" => (k_here; (with_reducible show wpAny _ _ (subscriptTail _ _ (Value.str (S _) _) (Value.int _ _)) _ _ _); k_dflt (first | (refine last_S (by first | assumption | (intro hz; simp only [hz, List.length_nil] at *; lia)) (by tb_start) ?_) | (refine item_S (by first | assumption | lia | k_extra "my item") (by tb_start) ?_)))
  k_with "subscriptTail Name Name str int" => (k_here; (with_reducible show wpAny _ _ (subscriptTail _ _ (Value.str (S _) _) (Value.int _ _)) _ _ _); first | (with_reducible refine item_S (by k_dflt (first | assumption | lia | k_extra "my item")) (by k_dflt tb_start) ?_) | k_dflt (refine item_Si (by lia) (by first | lia | k_extra "my item") (by tb_start) ?_))
  k_with "subscriptTail Name Constant str int" => (k_here; (with_reducible show wpAny _ _ (subscriptTail _ _ (Value.str (S _) _) (Value.int _ _)) _ _ _); first | (with_reducible refine item_S (by k_dflt (first | assumption | lia | k_extra "my item")) (by k_dflt tb_start) ?_) | k_dflt (refine item_Si (by lia) (by first | lia | k_extra "my item") (by tb_start) ?_))
  k_with "subscriptTail Name BinOp str int" => (k_here; (with_reducible show wpAny _ _ (subscriptTail _ _ (Value.str (S _) _) (Value.int _ _)) _ _ _); first | (with_reducible refine item_S (by k_dflt (first | assumption | lia | k_extra "my item")) (by k_dflt tb_start) ?_) | k_dflt (refine item_Si (by lia) (by first | lia | k_extra "my item") (by tb_start) ?_))
  k_with "subscriptTail Attribute Name str int" => (k_here; (with_reducible show wpAny _ _ (subscriptTail _ _ (Value.str (S _) _) (Value.int _ _)) _ _ _); first | (with_reducible refine item_S (by k_dflt (first | assumption | lia | k_extra "my item")) (by k_dflt tb_start) ?_) | k_dflt (refine item_Si (by lia) (by first | lia | k_extra "my item") (by tb_start) ?_))
  k_with "subscriptTail Attribute Constant str int" => (k_here; (with_reducible show wpAny _ _ (subscriptTail _ _ (Value.str (S _) _) (Value.int _ _)) _ _ _); first | (with_reducible refine item_S (by k_dflt (first | assumption | lia | k_extra "my item")) (by k_dflt tb_start) ?_) | k_dflt (refine item_Si (by lia) (by first | lia | k_extra "my item") (by tb_start) ?_))
  k_with "subscriptTail Attribute Attribute str int" => (k_here; (with_reducible show wpAny _ _ (subscriptTail _ _ (Value.str (S _) _) (Value.int _ _)) _ _ _); first | (with_reducible refine item_S (by k_dflt (first | assumption | lia | k_extra "my item")) (by k_dflt tb_start) ?_) | k_dflt (refine item_Si (by lia) (by first | lia | k_extra "my item") (by tb_start) ?_))
  k_with "truthy ref" => (k_here; k_dflt (refine' truthy_meth ?N ?q ?_; (case N => k_asm); (case q => k_mem); k_whole))
  k_with "exec For Name Name cons nil" => (k_here; (with_reducible rename Fr _ _ _ _ => lF'); k_dflt (refine' For_invVF lF' ?k1 ?k2 ?_; (case k1 => exact rfl); (case k2 => exact rfl); k_whole))
  k_with "exec For Name Subscript cons nil" => (k_here; (with_reducible rename Fr _ _ _ _ => lF'); k_dflt (refine' For_invVF lF' ?k1 ?k2 ?_; (case k1 => exact rfl); (case k2 => exact rfl); k_whole))
  k_with "all" => (refine List.forall_mem_append.mpr ⟨?a, ?b⟩; (case a => k_all); (case b => k_all))
  k_with "rel" => (simp only [List.size_toArray]; rw [PySem.sizeLine_eq]; lia)
  k_with "call builtin:list.append" => (k_here; (with_reducible show wpAny _ _ (call (Value.builtin _) [Value.ref _, _]) _ _ _); k_dflt (refine' append_K ?k1 ?k2 ?k3 ?_ ?z; (case k1 => k_asm); (case k2 => k_asm); (case k3 => k_upd); (case z => tb_rel); k_whole); intro h' F' N'; (try simp only [List.push_toArray] at N'); (try k_sweep))
  k_with "enter" => (refine' code_def ?k1 ?k2 ?k3 ?k4 ?k5 ?kA ?kF ?kK ?k6 ?k7 ?k8 ?k9 ?kB ?_ ?c2 ?c3 ?c4 ?c5; (case kA => exact rfl); (case kF => exact rfl); (case kK => assumption); (case k1 => k_asm); (case k2 => k_asm); (case k3 => k_asm); (case k4 => k_asm); (case k5 => k_asm); (case k6 => k_is); (case k7 => k_is); (case k8 => ktr_room); (case k9 => first | exact BindsTo.of_eq rfl | exact binds_K (by k_in) rfl (by k_is) rfl rfl rfl); (case c5 => decide); (case kB => exact locs rfl); (case c2 => exact rfl); (case c3 => exact rfl); (case c4 => exact rfl); k_whole; intro g' L' h' FG' F' N' B' X' T'; (try dsimp only); (try k_lift B'); (try k_fold))
  k_with "JoinP" => (dsimp only [JoinP])
  k_with "subscriptTail" => (k_here; (with_reducible show wpAny _ _ (subscriptTail _ _ (Value.str (S _) _) (Value.int _ _)) _ _ _); first | (with_reducible refine item_S (by k_dflt (first | assumption | lia | k_extra "my item")) (by k_dflt tb_start) ?_) | k_dflt (refine item_Si (by lia) (by first | lia | k_extra "my item") (by tb_start) ?_))
  k_with "compareOp Eq str str" => ((with_reducible show wpAny _ _ (compareOp CmpOp.Eq (Value.str (S _) _) (Value.str (Str.ofString _) _)) _ _ _); k_dflt (first | refine eq_lit [13] (by decide +kernel) ?_ | refine eq_lit [10] (by decide +kernel) ?_))
  k_with "compareOp NotEq str str" => ((with_reducible show wpAny _ _ (compareOp CmpOp.NotEq (Value.str (S _) _) (Value.str (Str.ofString _) _)) _ _ _); k_dflt (first | refine ne_lit [13] (by decide +kernel) ?_ | refine ne_lit [10] (by decide +kernel) ?_))
  k_with "inplaceOp Add str str" => ((with_reducible show wpAny _ _ (inplaceOp Operator.Add (Value.str (S _) _) (Value.str (Str.ofString _) _)) _ _ _); k_dflt (refine iadd_lit [10] (by decide +kernel) (by tb_start) ?_); intro _ _)
  k_with "room" => (k_dflt ((first | apply room4 | apply room3 | apply room2 | apply room1 | apply room0 | apply roomz); assumption; exact rfl))
  k_with "getAttr ref" => ((with_reducible show wpAny _ _ (getAttr (Value.ref _) (Str.ofString "chunk") _) _ _ _); k_dflt (refine g_chunk (by assumption) (by k_asm) (by k_asm) ?N ?_; (case N => first | k_asm | exact News.tl (by k_asm) | exact News.tl (News.tl (by k_asm)) | exact News.tl (News.tl (News.tl (by k_asm))))); intro _)
  k_with "getAttr ref" => ((with_reducible show wpAny _ _ (getAttr (Value.ref _) (Str.ofString "chunkSize") _) _ _ _); k_dflt (refine g_size (by assumption) (by k_asm) (by k_asm) ?N ?_; (case N => first | k_asm | exact News.tl (by k_asm) | exact News.tl (News.tl (by k_asm)) | exact News.tl (News.tl (News.tl (by k_asm))))); intro _)
  k_with "getAttr ref" => ((with_reducible show wpAny _ _ (getAttr (Value.ref _) (Str.ofString "chunkOffset") _) _ _ _); k_dflt (refine g_off (by assumption) (by k_asm) (by k_asm) ?N ?_; (case N => first | k_asm | exact News.tl (by k_asm) | exact News.tl (News.tl (by k_asm)) | exact News.tl (News.tl (News.tl (by k_asm))))); intro _)
  k_with "getAttr ref" => ((with_reducible show wpAny _ _ (getAttr (Value.ref _) (Str.ofString "prevNumLines") _) _ _ _); k_dflt (refine g_pl (by assumption) (by k_asm) (by k_asm) ?N ?_; (case N => first | k_asm | exact News.tl (by k_asm) | exact News.tl (News.tl (by k_asm)) | exact News.tl (News.tl (News.tl (by k_asm))))); intro _)
  k_with "getAttr ref" => ((with_reducible show wpAny _ _ (getAttr (Value.ref _) (Str.ofString "prevNumCols") _) _ _ _); k_dflt (refine g_pc (by assumption) (by k_asm) (by k_asm) ?N ?_; (case N => first | k_asm | exact News.tl (by k_asm) | exact News.tl (News.tl (by k_asm)) | exact News.tl (News.tl (News.tl (by k_asm))))); intro _)
  k_with "getAttr ref" => ((with_reducible show wpAny _ _ (getAttr (Value.ref _) (Str.ofString "errors") _) _ _ _); k_dflt (refine g_errors (by assumption) (by k_asm) (by k_asm) ?N ?_; (case N => first | k_asm | exact News.tl (by k_asm) | exact News.tl (News.tl (by k_asm)) | exact News.tl (News.tl (News.tl (by k_asm))))); intro _ hE1)
  k_with "getAttr ref" => ((with_reducible show wpAny _ _ (getAttr (Value.ref _) (Str.ofString "dataStream") _) _ _ _); k_dflt (refine g_stream (by assumption) (by k_asm) (by k_asm) ?N ?_; (case N => first | k_asm | exact News.tl (by k_asm) | exact News.tl (News.tl (by k_asm)) | exact News.tl (News.tl (News.tl (by k_asm))))); intro _ hT1)
  k_with "getAttr ref" => ((with_reducible show wpAny _ _ (getAttr (Value.ref _) (Str.ofString "_bufferedCharacter") _) _ _ _); k_dflt (refine g_buf (by assumption) (by k_asm) (by k_asm) ?N ?_; (case N => first | k_asm | exact News.tl (by k_asm) | exact News.tl (News.tl (by k_asm)) | exact News.tl (News.tl (News.tl (by k_asm))))); intro _ hB1; (try cases hB1))
  k_with "getAttr ref" => ((with_reducible show wpAny _ _ (getAttr (Value.ref _) (Str.ofString "reportCharacterErrors") _) _ _ _); k_dflt (refine g_rep (by assumption) (by k_asm) (by k_asm) ?N ?_; (case N => first | k_asm | exact News.tl (by k_asm) | exact News.tl (News.tl (by k_asm)) | exact News.tl (News.tl (News.tl (by k_asm))))); intro _ hR1)
  k_with "getAttr ref" => ((with_reducible show wpAny _ _ (getAttr (Value.ref _) (Str.ofString "_defaultChunkSize") _) _ _ _); k_dflt (refine g_dflt (by assumption) (by k_asm) (by k_asm) ?N ?_; (case N => first | k_asm | exact News.tl (by k_asm) | exact News.tl (News.tl (by k_asm)) | exact News.tl (News.tl (News.tl (by k_asm))))); intro _)
  k_with "getAttr ref" => ((with_reducible show wpAny _ _ (getAttr (Value.ref _) (Str.ofString "text") _) _ _ _); k_dflt (refine g_text (by assumption) (by assumption) (by k_asm) (by k_asm) ?N ?_; (case N => first | k_asm | exact News.tl (by k_asm) | exact News.tl (News.tl (by k_asm)) | exact News.tl (News.tl (News.tl (by k_asm))))); intro _)
  k_with "getAttr ref" => ((with_reducible show wpAny _ _ (getAttr (Value.ref _) (Str.ofString "place") _) _ _ _); k_dflt (refine g_place (by assumption) (by assumption) (by k_asm) (by k_asm) ?N ?_; (case N => first | k_asm | exact News.tl (by k_asm) | exact News.tl (News.tl (by k_asm)) | exact News.tl (News.tl (News.tl (by k_asm))))); intro _)
  k_with "setAttr ref" => ((with_reducible show wpAny _ _ (setAttr (Value.ref _) (Str.ofString "chunk") _) _ _ _); (with_reducible rename LedR _ _ _ _ _ _ _ _ _ _ _ _ _ _ => hLo); k_dflt (refine s_chunk hLo (by k_asm) (by k_asm) ?N ?_; (case N => first | k_asm | exact News.tl (by k_asm) | exact News.tl (News.tl (by k_asm)) | exact News.tl (News.tl (News.tl (by k_asm))))); intro h' n' F' N' hL'; (try k_sweep); clear hLo)
  k_with "setAttr ref" => ((with_reducible show wpAny _ _ (setAttr (Value.ref _) (Str.ofString "chunk") (Value.str (Str.ofString "") _)) _ _ _); (with_reducible rename LedR _ _ _ _ _ _ _ _ _ _ _ _ _ _ => hLo); k_dflt (refine s_chunk0 hLo (by k_asm) (by k_asm) ?N ?_; (case N => first | k_asm | exact News.tl (by k_asm) | exact News.tl (News.tl (by k_asm)) | exact News.tl (News.tl (News.tl (by k_asm))))); intro h' n' F' N' hL'; (try k_sweep); clear hLo)
  k_with "setAttr ref" => ((with_reducible show wpAny _ _ (setAttr (Value.ref _) (Str.ofString "chunkSize") _) _ _ _); (with_reducible rename LedR _ _ _ _ _ _ _ _ _ _ _ _ _ _ => hLo); k_dflt (refine s_size hLo (by k_asm) (by k_asm) ?N ?_; (case N => first | k_asm | exact News.tl (by k_asm) | exact News.tl (News.tl (by k_asm)) | exact News.tl (News.tl (News.tl (by k_asm))))); intro h' n' F' N' hL'; (try k_sweep); clear hLo)
  k_with "setAttr ref" => ((with_reducible show wpAny _ _ (setAttr (Value.ref _) (Str.ofString "chunkOffset") _) _ _ _); (with_reducible rename LedR _ _ _ _ _ _ _ _ _ _ _ _ _ _ => hLo); k_dflt (refine s_off hLo (by k_asm) (by k_asm) ?N ?_; (case N => first | k_asm | exact News.tl (by k_asm) | exact News.tl (News.tl (by k_asm)) | exact News.tl (News.tl (News.tl (by k_asm))))); intro h' n' F' N' hL'; (try k_sweep); clear hLo)
  k_with "setAttr ref" => ((with_reducible show wpAny _ _ (setAttr (Value.ref _) (Str.ofString "prevNumLines") _) _ _ _); (with_reducible rename LedR _ _ _ _ _ _ _ _ _ _ _ _ _ _ => hLo); k_dflt (refine s_pl hLo (by k_asm) (by k_asm) ?N ?_; (case N => first | k_asm | exact News.tl (by k_asm) | exact News.tl (News.tl (by k_asm)) | exact News.tl (News.tl (News.tl (by k_asm))))); intro h' n' F' N' hL'; (try k_sweep); clear hLo)
  k_with "setAttr ref" => ((with_reducible show wpAny _ _ (setAttr (Value.ref _) (Str.ofString "prevNumCols") _) _ _ _); (with_reducible rename LedR _ _ _ _ _ _ _ _ _ _ _ _ _ _ => hLo); k_dflt (refine s_pc hLo (by k_asm) (by k_asm) ?N ?_; (case N => first | k_asm | exact News.tl (by k_asm) | exact News.tl (News.tl (by k_asm)) | exact News.tl (News.tl (News.tl (by k_asm))))); intro h' n' F' N' hL'; (try k_sweep); clear hLo)
  k_with "setAttr ref" => ((with_reducible show wpAny _ _ (setAttr (Value.ref _) (Str.ofString "_bufferedCharacter") _) _ _ _); (with_reducible rename LedR _ _ _ _ _ _ _ _ _ _ _ _ _ _ => hLo); k_dflt (refine s_buf (by first | exact BufIs.none | exact BufIs.some | assumption) hLo (by k_asm) (by k_asm) ?N ?_; (case N => first | k_asm | exact News.tl (by k_asm) | exact News.tl (News.tl (by k_asm)) | exact News.tl (News.tl (News.tl (by k_asm))))); intro h' n' F' N' hL'; (try k_sweep); clear hLo)
  k_with "setAttr ref" => ((with_reducible show wpAny _ _ (setAttr (Value.ref _) (Str.ofString "place") _) _ _ _); (with_reducible rename LedR _ _ _ _ _ _ _ _ _ _ _ _ _ _ => hLo); k_dflt (refine s_place hLo (by assumption) (by k_asm) (by k_asm) ?N ?_; (case N => first | k_asm | exact News.tl (by k_asm) | exact News.tl (News.tl (by k_asm)) | exact News.tl (News.tl (News.tl (by k_asm))))); intro h' n' F' N' hL'; (try k_sweep); clear hLo)
  k_with "getMethod ref" => ((with_reducible show wpAny _ _ (getMethod (Value.ref _) (Str.ofString "_position") _) _ _ _); k_dflt (refine m_pos_ (by assumption) (by k_asm) (by k_asm) ?N ?_; (case N => first | k_asm | exact News.tl (by k_asm) | exact News.tl (News.tl (by k_asm)) | exact News.tl (News.tl (News.tl (by k_asm))))))
  k_with "getMethod ref" => ((with_reducible show wpAny _ _ (getMethod (Value.ref _) (Str.ofString "position") _) _ _ _); k_dflt (refine m_pos (by assumption) (by k_asm) (by k_asm) ?N ?_; (case N => first | k_asm | exact News.tl (by k_asm) | exact News.tl (News.tl (by k_asm)) | exact News.tl (News.tl (News.tl (by k_asm))))))
  k_with "getMethod ref" => ((with_reducible show wpAny _ _ (getMethod (Value.ref _) (Str.ofString "char") _) _ _ _); k_dflt (refine m_char (by assumption) (by k_asm) (by k_asm) ?N ?_; (case N => first | k_asm | exact News.tl (by k_asm) | exact News.tl (News.tl (by k_asm)) | exact News.tl (News.tl (News.tl (by k_asm))))))
  k_with "getMethod ref" => ((with_reducible show wpAny _ _ (getMethod (Value.ref _) (Str.ofString "readChunk") _) _ _ _); k_dflt (refine m_chunk (by assumption) (by k_asm) (by k_asm) ?N ?_; (case N => first | k_asm | exact News.tl (by k_asm) | exact News.tl (News.tl (by k_asm)) | exact News.tl (News.tl (News.tl (by k_asm))))))
  k_with "getMethod ref" => ((with_reducible show wpAny _ _ (getMethod (Value.ref _) (Str.ofString "unget") _) _ _ _); k_dflt (refine m_unget (by assumption) (by k_asm) (by k_asm) ?N ?_; (case N => first | k_asm | exact News.tl (by k_asm) | exact News.tl (News.tl (by k_asm)) | exact News.tl (News.tl (News.tl (by k_asm))))))
  k_with "getMethod ref" => ((with_reducible show wpAny _ _ (getMethod (Value.ref _) (Str.ofString "charsUntil") _) _ _ _); k_dflt (refine m_until (by assumption) (by k_asm) (by k_asm) ?N ?_; (case N => first | k_asm | exact News.tl (by k_asm) | exact News.tl (News.tl (by k_asm)) | exact News.tl (News.tl (News.tl (by k_asm))))))
  k_with "getMethod ref" => ((with_reducible show wpAny _ _ (getMethod (Value.ref _) (Str.ofString "read") _) _ _ _); k_dflt (refine m_read (by assumption) (by assumption) (by k_asm) (by k_asm) ?N ?_; (case N => first | k_asm | exact News.tl (by k_asm) | exact News.tl (News.tl (by k_asm)) | exact News.tl (News.tl (News.tl (by k_asm))))))
  k_with "getMethod ref" => ((with_reducible show wpAny _ _ (getMethod (Value.ref _) (Str.ofString "reportCharacterErrors") _) _ _ _); k_dflt (refine m_rep (by assumption) (by k_asm) (by k_asm) ?N ?_; (case N => first | k_asm | exact News.tl (by k_asm) | exact News.tl (News.tl (by k_asm)) | exact News.tl (News.tl (News.tl (by k_asm))))); intro _ hR1)
  k_with "getMethod ref" => ((with_reducible show wpAny _ _ (getMethod (Value.ref _) (Str.ofString "append") _) _ _ _); k_dflt (refine m_append (by assumption) (by assumption) (by k_asm) (by k_asm) ?N ?_; (case N => first | k_asm | exact News.tl (by k_asm) | exact News.tl (News.tl (by k_asm)) | exact News.tl (News.tl (News.tl (by k_asm))))))
  k_with "call builtin:list.append" => ((with_reducible rename LedR _ _ _ _ _ _ _ _ _ _ _ _ _ _ => hLo); k_dflt (refine app_err hLo (by assumption) (by k_asm) (by k_asm) ?N (by lia) ?_; (case N => first | k_asm | exact News.tl (by k_asm) | exact News.tl (News.tl (by k_asm)) | exact News.tl (News.tl (News.tl (by k_asm))))); intro h' n' F' N' hL'; (try k_sweep); clear hLo)
  k_with "call ref" => ((with_reducible show wpAny _ _ (call (Value.ref 49) _) _ _ _); k_dflt ((refine' Spec.useK (inv_spec _ _ _) ?B ?F ?X ?N ?T ?hk ?hd ?hu ?_); (case B => k_asm); (case F => k_asm); (case X => k_asm); (case T => k_asm); (case hk => first | exact rfl | assumption); (case N => first | k_asm | exact News.tl (by k_asm) | exact News.tl (News.tl (by k_asm)) | exact News.tl (News.tl (News.tl (by k_asm)))); (case hd => ktr_room); (case hu => ktr_units); intro h' tk' hle' F' N'; (try dsimp only); (try k_fold)))
  k_dflt (k_extra "enter")
  (rename Fr _ _ _ _ => F1)
  (with_unfolding_all change Fr _ _ _ (fun y => List.lookup y [(Str.ofString "data", Value.str (S l) t), (Str.ofString "self", Value.ref x)]) at F1)
  k_steps
  (rename Fr _ _ _ _ => lF')
  (rename News _ _ _ _ => lN')
  k_dflt (refine loop_Sm (fun m₀ i m' nx => LedR w R rest ad x ck sz of (er + (l.take i).countP isInv) pl pc bf pla nx ∧ ∃ u : Option Value, m' = fun z => if z = Str.ofString "c" then u else m₀ z) (by rfl) lF' lN' ⟨hL, mix1 _ _⟩ ?_ ?_)
  · clear lF' lN'
    intro i c t' m₁ n₁ h tk own hi hadr hoff hJ F' N'
    obtain ⟨hL', u, rfl⟩ := hJ
    have ha := hL.addr
    have hL2 := hL'.app (own := own) (fun p hp b hb => hoff p hp b (by rw [ha]; exact List.mem_append.mpr (.inl hb)))
    clear hL'
    obtain ⟨n₂, hn₂⟩ : ∃ n₂, n₁ ++ own = n₂ := ⟨_, rfl⟩
    rw [hn₂] at hL2 N'
    clear hn₂ hoff hadr
    have hcp := List.countP_le_length (p := isInv) (l := l.take i)
    rw [List.length_take] at hcp
    have hcs : List.countP isInv (List.take (i + 1) l) = List.countP isInv (List.take i l) + if isInv c then 1 else 0 := by
      rw [List.take_add_one, hi, List.countP_append]
      simp
    (try k_fold)
    k_steps
    · rw [if_pos (by assumption)] at hcs
      refine led_end (by assumption) (by assumption) (by assumption) ha.symm (fun nx hx => ⟨by rw [hcs]; exact hx, some (.str (S [c]) t'), ?_⟩)
      exact cut_if
    · rw [if_neg (by simp only [Bool.not_eq_true]; assumption)] at hcs
      refine led_end (by assumption) (by assumption) (by assumption) ha.symm (fun nx hx => ⟨by rw [hcs]; exact hx, some (.str (S [c]) t'), ?_⟩)
      exact cut_if
  · clear lF' lN'
    intro m₁ n₁ h tk hJ F' N'
    obtain ⟨hL', u, rfl⟩ := hJ
    rw [List.take_length] at hL'
    (try dsimp only)
    (try k_fold)
    k_steps
    all_goals exact hret _ _ _ _ ⟨rfl, hL'⟩ (by assumption) (by assumption)
end
theorem off_a {d lv : Str} {a b c : Option Value} {f : Str → Option Value} : ∀ y, y ≠ lv → (fun y => if y = d then a else if y = lv then b else if y = d then c else f y) y = if y = d then a else f y := fun y h => by
  by_cases hd : y = d
  · simp only [hd, if_true]
  · simp only [hd, h, if_false]
theorem off_b {d lv : Str} {a b : Option Value} {f : Str → Option Value} : ∀ y, y ≠ lv → (fun y => if y = lv then b else if y = d then a else f y) y = if y = d then a else f y := fun y h => if_neg h
theorem look_if {c : Str} {v : Value} {l : List (Str × Value)} : (fun y => List.lookup y ((c, v) :: l)) = fun y => if y = c then some v else List.lookup y ((c, v) :: l) := by
  funext y
  by_cases h : y = c
  · rw [if_pos h, h]; simp [List.lookup]
  · rw [if_neg h]
section
variable {w : World} {mean : ExcName → Option Value} {mg mb : Str → Option Value} {R : List Nat} {rest : List (Addr × Obj)} {ad : List Nat} {x : Nat} {st : St} {news : List (Addr × Obj)}
set_option maxRecDepth 100000 in
set_option maxHeartbeats 8000000 in
theorem chunk_gen (hL : LedIs w R rest ad x st news) (size : Nat) (t : Tok) (vs : List Value) (v : Value) (hv : (vs = [.ref x, .int (size : Int) t] ∧ v = .int (size : Int) t) ∨ (vs = [.ref x] ∧ v = .none ∧ size = 10240))
    (hR : R.length ≤ 1000) (hp : st.place ≤ 1000) (hc : st.chunk.length ≤ 10000) (he : st.errs ≤ 100000) (hsz : size ≤ 100000) :
    Spec w mean mg mb 106 vs 40 300 news (fun v n => v = .bool (decide (st.data R size ≠ [])) ∧ LedIs w R rest ad x (st.fetch R size) n) := by
  refine Spec.of ?_
  intro dp un gd cn cs a ccd cl outer A₀ base h₀ L m s Q E B F X N T hk hd hu hret
  obtain ⟨ck, of, er, pl, pc, bf, pla⟩ := st
  unfold LedIs at hL
  unfold St.fetch St.data St.pos at hret
  dsimp only at *
  have hbl : bf.toList.length ≤ 1 := by cases bf <;> simp
  have hv0 : Hid _ := hv
  clear hv
  have hPl := Nat.le_trans (partOf_le R size pla) hR
  obtain ⟨P, hP⟩ : ∃ P, partOf R size pla = P := ⟨_, rfl⟩
  obtain ⟨p, hpp⟩ : ∃ p, (ck.take ck.length).foldl adv (pl, pc) = p := ⟨_, rfl⟩
  rw [hP] at hPl
  rw [hP, hpp] at hret
  k_with_none
  k_with "tb" => (first | assumption | (apply le3; assumption; exact rfl) | lia | (simp only [List.length_append, List.length_cons, List.length_nil, List.length_take, List.length_drop, List.length_dropLast, crs_len, partOf_len] at *; lia) | ((with_reducible refine Nat.le_trans (crlf_len _) ?_); tb_start) | ((with_reducible refine Nat.le_trans (split_len _) ?_); tb_start) | ((with_reducible refine Nat.le_trans (norm_len _) ?_); tb_start))
  k_with "call builtin:str.count" => (refine count4 (by decide +kernel) (by first | assumption | lia) ?_)
  k_with "call builtin:str.rfind" => (refine rfind4 (by decide +kernel) (by first | assumption | lia) ?_)
  k_with "call builtin:str.replace" => ((try dsimp only at *); k_dflt (refine repl_crlf_S (by decide +kernel) (by decide +kernel) (by k_ne) (by k_ne) (by k_ne) (by tb_start) ?_); intro _ _ _)
  k_with "call builtin:str.replace" => ((try dsimp only at *); k_dflt (refine repl_cr_S (by decide +kernel) (by decide +kernel) (by k_ne) (by k_ne) (by k_ne) (by tb_start) ?_); intro _ _ _)
  k_with "call builtin:len" => ((with_reducible show wpAny _ _ (call (Value.builtin "len") [Value.str (S _) _]) _ _ _); refine len_S (by tb_start) ?_)
  k_with "call builtin:ord" => ((with_reducible show wpAny _ _ (call (Value.builtin "ord") [Value.str (S _) _]) _ _ _); refine ord_S ?_)
  k_with "binaryOp Add str str" => ((with_reducible show wpAny _ _ (binaryOp Operator.Add (Value.str (S _) _) (Value.str (S _) _)) _ _ _); refine add_S (by tb_start) ?_; intro _ _)
  k_with "inplaceOp Add str str" => ((with_reducible show wpAny _ _ (inplaceOp Operator.Add (Value.str (S _) _) (Value.str (S _) _)) _ _ _); refine iadd_S (by tb_start) ?_; intro _ _)
  k_with "truthy str" => ((with_reducible show wpAny _ _ (truthy (Value.str (S _) _)) _ _ _); refine truthy_S (by tb_start) ?_)
  k_with "compareOp Eq str str" => ((with_reducible show wpAny _ _ (compareOp CmpOp.Eq (Value.str (S _) _) (Value.str (S _) _)) _ _ _); refine eq_S ?_)
  k_with "compareOp NotEq str str" => ((with_reducible show wpAny _ _ (compareOp CmpOp.NotEq (Value.str (S _) _) (Value.str (S _) _)) _ _ _); refine ne_S ?_)
  k_with "subscriptTail Name Slice str ref" => (k_here; (with_reducible rename Fr _ _ _ _ => F'); (with_reducible rename News _ _ _ _ => N'); k_dflt (refine drop_S (s := ⟨_, _, _, _, _⟩) F' N' (by tb_start) ?_); intro _ _ _ _ _; (try k_sweep))
  k_with "subscriptTail Name Slice str ref" => (k_here; (with_reducible rename Fr _ _ _ _ => F'); (with_reducible rename News _ _ _ _ => N'); k_dflt (refine take_S (s := ⟨_, _, _, _, _⟩) F' N' (by tb_start) ?_); intro _ _ _ _ _; (try k_sweep))
  k_with "subscriptTail Name Slice str ref" => (k_here; (with_reducible rename Fr _ _ _ _ => F'); (with_reducible rename News _ _ _ _ => N'); k_dflt (refine mid_S (s := ⟨_, _, _, _, _⟩) F' N' (by tb_start) ?_); intro _ _ _ _ _; (try k_sweep))
  k_with "subscriptTail Name Slice str ref" => (k_here; (with_reducible rename Fr _ _ _ _ => F'); (with_reducible rename News _ _ _ _ => N'); k_dflt (refine part_S (s := ⟨_, _, _, _, _⟩) F' N' (by tb_start) ?_); intro _ _ _ _ _; (try k_sweep))
  k_with "subscriptTail Name Slice str ref" => (k_here; (with_reducible rename Fr _ _ _ _ => F'); (with_reducible rename News _ _ _ _ => N'); k_dflt (refine init_S (s := ⟨_, _, _, _, _⟩) F' N' (by tb_start) ?_); intro _ _ _ _ _; (try k_sweep))
  k_with "subscriptTail Name UnaryOp str int" => (k_here; (with_reducible show wpAny _ _ (subscriptTail _ _ (Value.str (S _) _) (Value.int _ _)) _ _ _); k_dflt (first | (refine last_S (by first | assumption | (intro hz; simp only [hz, List.length_nil] at *; lia)) (by tb_start) ?_) | (refine item_S (by first | assumption | lia | k_extra "my item") (by tb_start) ?_)))
  k_with "subscriptTail Name Name str int" => (k_here; (with_reducible show wpAny _ _ (subscriptTail _ _ (Value.str (S _) _) (Value.int _ _)) _ _ _); first | (with_reducible refine item_S (by k_dflt (first | assumption | lia | k_extra "my item")) (by k_dflt tb_start) ?_) | k_dflt (refine item_Si (by lia) (by first | lia | k_extra "my item") (by tb_start) ?_))
  k_with "subscriptTail Name Constant str int" => (k_here; (with_reducible show wpAny _ _ (subscriptTail _ _ (Value.str (S _) _) (Value.int _ _)) _ _ _); first | (with_reducible refine item_S (by k_dflt (first | assumption | lia | k_extra "my item")) (by k_dflt tb_start) ?_) | k_dflt (refine item_Si (by lia) (by first | lia | k_extra "my item") (by tb_start) ?_))
  k_with "subscriptTail Name BinOp str int" => (k_here; (with_reducible show wpAny _ _ (subscriptTail _ _ (Value.str (S _) _) (Value.int _ _)) _ _ _); first | (with_reducible refine item_S (by k_dflt (first | assumption | lia | k_extra "my item")) (by k_dflt tb_start) ?_) | k_dflt (refine item_Si (by lia) (by first | lia | k_extra "my item") (by tb_start) ?_))
  k_with "subscriptTail Attribute Name str int" => (k_here; (with_reducible show wpAny _ _ (subscriptTail _ _ (Value.str (S _) _) (Value.int _ _)) _ _ _); first | (with_reducible refine item_S (by k_dflt (first | assumption | lia | k_extra "my item")) (by k_dflt tb_start) ?_) | k_dflt (refine item_Si (by lia) (by first | lia | k_extra "my item") (by tb_start) ?_))
  k_with "subscriptTail Attribute Constant str int" => (k_here; (with_reducible show wpAny _ _ (subscriptTail _ _ (Value.str (S _) _) (Value.int _ _)) _ _ _); first | (with_reducible refine item_S (by k_dflt (first | assumption | lia | k_extra "my item")) (by k_dflt tb_start) ?_) | k_dflt (refine item_Si (by lia) (by first | lia | k_extra "my item") (by tb_start) ?_))
  k_with "subscriptTail Attribute Attribute str int" => (k_here; (with_reducible show wpAny _ _ (subscriptTail _ _ (Value.str (S _) _) (Value.int _ _)) _ _ _); first | (with_reducible refine item_S (by k_dflt (first | assumption | lia | k_extra "my item")) (by k_dflt tb_start) ?_) | k_dflt (refine item_Si (by lia) (by first | lia | k_extra "my item") (by tb_start) ?_))
  k_with "truthy ref" => (k_here; k_dflt (refine' truthy_meth ?N ?q ?_; (case N => k_asm); (case q => k_mem); k_whole))
  k_with "exec For Name Name cons nil" => (k_here; (with_reducible rename Fr _ _ _ _ => lF'); k_dflt (refine' For_invVF lF' ?k1 ?k2 ?_; (case k1 => exact rfl); (case k2 => exact rfl); k_whole))
  k_with "exec For Name Subscript cons nil" => (k_here; (with_reducible rename Fr _ _ _ _ => lF'); k_dflt (refine' For_invVF lF' ?k1 ?k2 ?_; (case k1 => exact rfl); (case k2 => exact rfl); k_whole))
  k_with "all" => (refine List.forall_mem_append.mpr ⟨?a, ?b⟩; (case a => k_all); (case b => k_all))
  k_with "rel" => (simp only [List.size_toArray]; rw [PySem.sizeLine_eq]; lia)
  k_with "call builtin:list.append" => (k_here; (with_reducible show wpAny _ _ (call (Value.builtin _) [Value.ref _, _]) _ _ _); k_dflt (refine' append_K ?k1 ?k2 ?k3 ?_ ?z; (case k1 => k_asm); (case k2 => k_asm); (case k3 => k_upd); (case z => tb_rel); k_whole); intro h' F' N'; (try simp only [List.push_toArray] at N'); (try k_sweep))
  k_with "enter" => (refine' code_def ?k1 ?k2 ?k3 ?k4 ?k5 ?kA ?kF ?kK ?k6 ?k7 ?k8 ?k9 ?kB ?_ ?c2 ?c3 ?c4 ?c5; (case kA => exact rfl); (case kF => exact rfl); (case kK => assumption); (case k1 => k_asm); (case k2 => k_asm); (case k3 => k_asm); (case k4 => k_asm); (case k5 => k_asm); (case k6 => k_is); (case k7 => k_is); (case k8 => ktr_room); (case k9 => first | exact BindsTo.of_eq rfl | exact binds_K (by k_in) rfl (by k_is) rfl rfl rfl); (case c5 => decide); (case kB => exact locs rfl); (case c2 => exact rfl); (case c3 => exact rfl); (case c4 => exact rfl); k_whole; intro g' L' h' FG' F' N' B' X' T'; (try dsimp only); (try k_lift B'); (try k_fold))
  k_with "JoinP" => (dsimp only [JoinP])
  k_with "subscriptTail" => (k_here; (with_reducible show wpAny _ _ (subscriptTail _ _ (Value.str (S _) _) (Value.int _ _)) _ _ _); first | (with_reducible refine item_S (by k_dflt (first | assumption | lia | k_extra "my item")) (by k_dflt tb_start) ?_) | k_dflt (refine item_Si (by lia) (by first | lia | k_extra "my item") (by tb_start) ?_))
  k_with "compareOp Eq str str" => ((with_reducible show wpAny _ _ (compareOp CmpOp.Eq (Value.str (S _) _) (Value.str (Str.ofString _) _)) _ _ _); k_dflt (first | refine eq_lit [13] (by decide +kernel) ?_ | refine eq_lit [10] (by decide +kernel) ?_))
  k_with "compareOp NotEq str str" => ((with_reducible show wpAny _ _ (compareOp CmpOp.NotEq (Value.str (S _) _) (Value.str (Str.ofString _) _)) _ _ _); k_dflt (first | refine ne_lit [13] (by decide +kernel) ?_ | refine ne_lit [10] (by decide +kernel) ?_))
  k_with "inplaceOp Add str str" => ((with_reducible show wpAny _ _ (inplaceOp Operator.Add (Value.str (S _) _) (Value.str (Str.ofString _) _)) _ _ _); k_dflt (refine iadd_lit [10] (by decide +kernel) (by tb_start) ?_); intro _ _)
  k_with "room" => (k_dflt ((first | apply room4 | apply room3 | apply room2 | apply room1 | apply room0 | apply roomz); assumption; exact rfl))
  k_with "execs cons" => (k_here; (fail_if_success (fail_if_success k_gentoks)); (refine gen_toks (by (dsimp only); lia) ?_); intro tk htk; (try dsimp only))
  k_with "execs nil" => (k_here; (fail_if_success (fail_if_success k_gentoks)); (refine gen_toks (by (dsimp only); lia) ?_); intro tk htk; (try dsimp only))
  k_with "getAttr ref" => ((with_reducible show wpAny _ _ (getAttr (Value.ref _) (Str.ofString "chunk") _) _ _ _); k_dflt (refine g_chunk (by assumption) (by k_asm) (by k_asm) ?N ?_; (case N => first | k_asm | exact News.tl (by k_asm) | exact News.tl (News.tl (by k_asm)) | exact News.tl (News.tl (News.tl (by k_asm))))); intro _)
  k_with "getAttr ref" => ((with_reducible show wpAny _ _ (getAttr (Value.ref _) (Str.ofString "chunkSize") _) _ _ _); k_dflt (refine g_size (by assumption) (by k_asm) (by k_asm) ?N ?_; (case N => first | k_asm | exact News.tl (by k_asm) | exact News.tl (News.tl (by k_asm)) | exact News.tl (News.tl (News.tl (by k_asm))))); intro _)
  k_with "getAttr ref" => ((with_reducible show wpAny _ _ (getAttr (Value.ref _) (Str.ofString "chunkOffset") _) _ _ _); k_dflt (refine g_off (by assumption) (by k_asm) (by k_asm) ?N ?_; (case N => first | k_asm | exact News.tl (by k_asm) | exact News.tl (News.tl (by k_asm)) | exact News.tl (News.tl (News.tl (by k_asm))))); intro _)
  k_with "getAttr ref" => ((with_reducible show wpAny _ _ (getAttr (Value.ref _) (Str.ofString "prevNumLines") _) _ _ _); k_dflt (refine g_pl (by assumption) (by k_asm) (by k_asm) ?N ?_; (case N => first | k_asm | exact News.tl (by k_asm) | exact News.tl (News.tl (by k_asm)) | exact News.tl (News.tl (News.tl (by k_asm))))); intro _)
  k_with "getAttr ref" => ((with_reducible show wpAny _ _ (getAttr (Value.ref _) (Str.ofString "prevNumCols") _) _ _ _); k_dflt (refine g_pc (by assumption) (by k_asm) (by k_asm) ?N ?_; (case N => first | k_asm | exact News.tl (by k_asm) | exact News.tl (News.tl (by k_asm)) | exact News.tl (News.tl (News.tl (by k_asm))))); intro _)
  k_with "getAttr ref" => ((with_reducible show wpAny _ _ (getAttr (Value.ref _) (Str.ofString "errors") _) _ _ _); k_dflt (refine g_errors (by assumption) (by k_asm) (by k_asm) ?N ?_; (case N => first | k_asm | exact News.tl (by k_asm) | exact News.tl (News.tl (by k_asm)) | exact News.tl (News.tl (News.tl (by k_asm))))); intro _ hE1)
  k_with "getAttr ref" => ((with_reducible show wpAny _ _ (getAttr (Value.ref _) (Str.ofString "dataStream") _) _ _ _); k_dflt (refine g_stream (by assumption) (by k_asm) (by k_asm) ?N ?_; (case N => first | k_asm | exact News.tl (by k_asm) | exact News.tl (News.tl (by k_asm)) | exact News.tl (News.tl (News.tl (by k_asm))))); intro _ hT1)
  k_with "getAttr ref" => ((with_reducible show wpAny _ _ (getAttr (Value.ref _) (Str.ofString "_bufferedCharacter") _) _ _ _); k_dflt (refine g_buf (by assumption) (by k_asm) (by k_asm) ?N ?_; (case N => first | k_asm | exact News.tl (by k_asm) | exact News.tl (News.tl (by k_asm)) | exact News.tl (News.tl (News.tl (by k_asm))))); intro _ hB1; (try cases hB1))
  k_with "getAttr ref" => ((with_reducible show wpAny _ _ (getAttr (Value.ref _) (Str.ofString "reportCharacterErrors") _) _ _ _); k_dflt (refine g_rep (by assumption) (by k_asm) (by k_asm) ?N ?_; (case N => first | k_asm | exact News.tl (by k_asm) | exact News.tl (News.tl (by k_asm)) | exact News.tl (News.tl (News.tl (by k_asm))))); intro _ hR1)
  k_with "getAttr ref" => ((with_reducible show wpAny _ _ (getAttr (Value.ref _) (Str.ofString "_defaultChunkSize") _) _ _ _); k_dflt (refine g_dflt (by assumption) (by k_asm) (by k_asm) ?N ?_; (case N => first | k_asm | exact News.tl (by k_asm) | exact News.tl (News.tl (by k_asm)) | exact News.tl (News.tl (News.tl (by k_asm))))); intro _)
  k_with "getAttr ref" => ((with_reducible show wpAny _ _ (getAttr (Value.ref _) (Str.ofString "text") _) _ _ _); k_dflt (refine g_text (by assumption) (by assumption) (by k_asm) (by k_asm) ?N ?_; (case N => first | k_asm | exact News.tl (by k_asm) | exact News.tl (News.tl (by k_asm)) | exact News.tl (News.tl (News.tl (by k_asm))))); intro _)
  k_with "getAttr ref" => ((with_reducible show wpAny _ _ (getAttr (Value.ref _) (Str.ofString "place") _) _ _ _); k_dflt (refine g_place (by assumption) (by assumption) (by k_asm) (by k_asm) ?N ?_; (case N => first | k_asm | exact News.tl (by k_asm) | exact News.tl (News.tl (by k_asm)) | exact News.tl (News.tl (News.tl (by k_asm))))); intro _)
  k_with "setAttr ref" => ((with_reducible show wpAny _ _ (setAttr (Value.ref _) (Str.ofString "chunk") _) _ _ _); (with_reducible rename LedR _ _ _ _ _ _ _ _ _ _ _ _ _ _ => hLo); k_dflt (refine s_chunk hLo (by k_asm) (by k_asm) ?N ?_; (case N => first | k_asm | exact News.tl (by k_asm) | exact News.tl (News.tl (by k_asm)) | exact News.tl (News.tl (News.tl (by k_asm))))); intro h' n' F' N' hL'; (try k_sweep); clear hLo)
  k_with "setAttr ref" => ((with_reducible show wpAny _ _ (setAttr (Value.ref _) (Str.ofString "chunk") (Value.str (Str.ofString "") _)) _ _ _); (with_reducible rename LedR _ _ _ _ _ _ _ _ _ _ _ _ _ _ => hLo); k_dflt (refine s_chunk0 hLo (by k_asm) (by k_asm) ?N ?_; (case N => first | k_asm | exact News.tl (by k_asm) | exact News.tl (News.tl (by k_asm)) | exact News.tl (News.tl (News.tl (by k_asm))))); intro h' n' F' N' hL'; (try k_sweep); clear hLo)
  k_with "setAttr ref" => ((with_reducible show wpAny _ _ (setAttr (Value.ref _) (Str.ofString "chunkSize") _) _ _ _); (with_reducible rename LedR _ _ _ _ _ _ _ _ _ _ _ _ _ _ => hLo); k_dflt (refine s_size hLo (by k_asm) (by k_asm) ?N ?_; (case N => first | k_asm | exact News.tl (by k_asm) | exact News.tl (News.tl (by k_asm)) | exact News.tl (News.tl (News.tl (by k_asm))))); intro h' n' F' N' hL'; (try k_sweep); clear hLo)
  k_with "setAttr ref" => ((with_reducible show wpAny _ _ (setAttr (Value.ref _) (Str.ofString "chunkOffset") _) _ _ _); (with_reducible rename LedR _ _ _ _ _ _ _ _ _ _ _ _ _ _ => hLo); k_dflt (refine s_off hLo (by k_asm) (by k_asm) ?N ?_; (case N => first | k_asm | exact News.tl (by k_asm) | exact News.tl (News.tl (by k_asm)) | exact News.tl (News.tl (News.tl (by k_asm))))); intro h' n' F' N' hL'; (try k_sweep); clear hLo)
  k_with "setAttr ref" => ((with_reducible show wpAny _ _ (setAttr (Value.ref _) (Str.ofString "prevNumLines") _) _ _ _); (with_reducible rename LedR _ _ _ _ _ _ _ _ _ _ _ _ _ _ => hLo); k_dflt (refine s_pl hLo (by k_asm) (by k_asm) ?N ?_; (case N => first | k_asm | exact News.tl (by k_asm) | exact News.tl (News.tl (by k_asm)) | exact News.tl (News.tl (News.tl (by k_asm))))); intro h' n' F' N' hL'; (try k_sweep); clear hLo)
  k_with "setAttr ref" => ((with_reducible show wpAny _ _ (setAttr (Value.ref _) (Str.ofString "prevNumCols") _) _ _ _); (with_reducible rename LedR _ _ _ _ _ _ _ _ _ _ _ _ _ _ => hLo); k_dflt (refine s_pc hLo (by k_asm) (by k_asm) ?N ?_; (case N => first | k_asm | exact News.tl (by k_asm) | exact News.tl (News.tl (by k_asm)) | exact News.tl (News.tl (News.tl (by k_asm))))); intro h' n' F' N' hL'; (try k_sweep); clear hLo)
  k_with "setAttr ref" => ((with_reducible show wpAny _ _ (setAttr (Value.ref _) (Str.ofString "_bufferedCharacter") _) _ _ _); (with_reducible rename LedR _ _ _ _ _ _ _ _ _ _ _ _ _ _ => hLo); k_dflt (refine s_buf (by first | exact BufIs.none | exact BufIs.some | assumption) hLo (by k_asm) (by k_asm) ?N ?_; (case N => first | k_asm | exact News.tl (by k_asm) | exact News.tl (News.tl (by k_asm)) | exact News.tl (News.tl (News.tl (by k_asm))))); intro h' n' F' N' hL'; (try k_sweep); clear hLo)
  k_with "setAttr ref" => ((with_reducible show wpAny _ _ (setAttr (Value.ref _) (Str.ofString "place") _) _ _ _); (with_reducible rename LedR _ _ _ _ _ _ _ _ _ _ _ _ _ _ => hLo); k_dflt (refine s_place hLo (by assumption) (by k_asm) (by k_asm) ?N ?_; (case N => first | k_asm | exact News.tl (by k_asm) | exact News.tl (News.tl (by k_asm)) | exact News.tl (News.tl (News.tl (by k_asm))))); intro h' n' F' N' hL'; (try k_sweep); clear hLo)
  k_with "getMethod ref" => ((with_reducible show wpAny _ _ (getMethod (Value.ref _) (Str.ofString "_position") _) _ _ _); k_dflt (refine m_pos_ (by assumption) (by k_asm) (by k_asm) ?N ?_; (case N => first | k_asm | exact News.tl (by k_asm) | exact News.tl (News.tl (by k_asm)) | exact News.tl (News.tl (News.tl (by k_asm))))))
  k_with "getMethod ref" => ((with_reducible show wpAny _ _ (getMethod (Value.ref _) (Str.ofString "position") _) _ _ _); k_dflt (refine m_pos (by assumption) (by k_asm) (by k_asm) ?N ?_; (case N => first | k_asm | exact News.tl (by k_asm) | exact News.tl (News.tl (by k_asm)) | exact News.tl (News.tl (News.tl (by k_asm))))))
  k_with "getMethod ref" => ((with_reducible show wpAny _ _ (getMethod (Value.ref _) (Str.ofString "char") _) _ _ _); k_dflt (refine m_char (by assumption) (by k_asm) (by k_asm) ?N ?_; (case N => first | k_asm | exact News.tl (by k_asm) | exact News.tl (News.tl (by k_asm)) | exact News.tl (News.tl (News.tl (by k_asm))))))
  k_with "getMethod ref" => ((with_reducible show wpAny _ _ (getMethod (Value.ref _) (Str.ofString "readChunk") _) _ _ _); k_dflt (refine m_chunk (by assumption) (by k_asm) (by k_asm) ?N ?_; (case N => first | k_asm | exact News.tl (by k_asm) | exact News.tl (News.tl (by k_asm)) | exact News.tl (News.tl (News.tl (by k_asm))))))
  k_with "getMethod ref" => ((with_reducible show wpAny _ _ (getMethod (Value.ref _) (Str.ofString "unget") _) _ _ _); k_dflt (refine m_unget (by assumption) (by k_asm) (by k_asm) ?N ?_; (case N => first | k_asm | exact News.tl (by k_asm) | exact News.tl (News.tl (by k_asm)) | exact News.tl (News.tl (News.tl (by k_asm))))))
  k_with "getMethod ref" => ((with_reducible show wpAny _ _ (getMethod (Value.ref _) (Str.ofString "charsUntil") _) _ _ _); k_dflt (refine m_until (by assumption) (by k_asm) (by k_asm) ?N ?_; (case N => first | k_asm | exact News.tl (by k_asm) | exact News.tl (News.tl (by k_asm)) | exact News.tl (News.tl (News.tl (by k_asm))))))
  k_with "getMethod ref" => ((with_reducible show wpAny _ _ (getMethod (Value.ref _) (Str.ofString "read") _) _ _ _); k_dflt (refine m_read (by assumption) (by assumption) (by k_asm) (by k_asm) ?N ?_; (case N => first | k_asm | exact News.tl (by k_asm) | exact News.tl (News.tl (by k_asm)) | exact News.tl (News.tl (News.tl (by k_asm))))))
  k_with "getMethod ref" => ((with_reducible show wpAny _ _ (getMethod (Value.ref _) (Str.ofString "reportCharacterErrors") _) _ _ _); k_dflt (refine m_rep (by assumption) (by k_asm) (by k_asm) ?N ?_; (case N => first | k_asm | exact News.tl (by k_asm) | exact News.tl (News.tl (by k_asm)) | exact News.tl (News.tl (News.tl (by k_asm))))); intro _ hR1)
  k_with "getMethod ref" => ((with_reducible show wpAny _ _ (getMethod (Value.ref _) (Str.ofString "append") _) _ _ _); k_dflt (refine m_append (by assumption) (by assumption) (by k_asm) (by k_asm) ?N ?_; (case N => first | k_asm | exact News.tl (by k_asm) | exact News.tl (News.tl (by k_asm)) | exact News.tl (News.tl (News.tl (by k_asm))))))
  k_with "call builtin:list.append" => ((with_reducible rename LedR _ _ _ _ _ _ _ _ _ _ _ _ _ _ => hLo); k_dflt (refine app_err hLo (by assumption) (by k_asm) (by k_asm) ?N (by lia) ?_; (case N => first | k_asm | exact News.tl (by k_asm) | exact News.tl (News.tl (by k_asm)) | exact News.tl (News.tl (News.tl (by k_asm))))); intro h' n' F' N' hL'; (try k_sweep); clear hLo)
  k_with "call ref" => ((with_reducible show wpAny _ _ (call (Value.ref 35) _) _ _ _); k_dflt ((refine' Spec.useS (hP ▸ read_spec (by assumption) (by assumption) size _ hR hp hsz) ?B ?F ?X ?N ?T ?hk ?hd ?hu ?_); (case B => k_asm); (case F => k_asm); (case X => k_asm); (case T => k_asm); (case hk => first | exact rfl | assumption); (case N => first | k_asm | exact News.tl (by k_asm) | exact News.tl (News.tl (by k_asm)) | exact News.tl (News.tl (News.tl (by k_asm)))); (case hd => ktr_room); (case hu => ktr_units); intro t' n' h' tk' hL' hle' F' N'; (try dsimp only); (try k_fold)))
  k_with "call ref" => ((with_reducible show wpAny _ _ (call (Value.ref 84) _) _ _ _); k_dflt ((refine' Spec.usePos (pos_spec (by assumption) ck.length _ (Nat.le_refl _) hc) hpp ?B ?F ?X ?N ?T ?hk ?hd ?hu ?_); (case B => k_asm); (case F => k_asm); (case X => k_asm); (case T => k_asm); (case hk => first | exact rfl | assumption); (case N => first | k_asm | exact News.tl (by k_asm) | exact News.tl (News.tl (by k_asm)) | exact News.tl (News.tl (News.tl (by k_asm)))); (case hd => ktr_room); (case hu => ktr_units); intro D' ta' tb' h' tk' hlt' hle' F' N'; (try k_lt hlt'); (try dsimp only); (try k_fold)))
  k_with "exec If" => ((with_reducible show wpAny _ _ (exec (Stmt.If (Expr.Attribute _ (Str.ofString "_bufferedCharacter") _) _ _ _) _) _ _ _); (rename Fr _ _ _ _ => F1); k_dflt (refine' join_if (n := 1) F1 (fun m' nw => (∃ t2 t0 : Tok, m' = fun y => if y = Str.ofString "data" then some (Value.str (S (bf.toList ++ P)) t2) else if y = Str.ofString "chunkSize" then some (Value.int (size : Int) t0) else List.lookup y [(Str.ofString "chunkSize", v), (Str.ofString "self", Value.ref x)]) ∧ bf.toList ++ P ≠ [] ∧ LedR w R rest ad x [] 0 0 er (p.1 : Int) (p.2 : Int) none ((pla + P.length : Nat) : Int) nw) ?ja ?jb); (case' ja => (rcases bf with _ | b) <;> ((try dsimp only [Option.toList, List.cons_append, List.nil_append] at *); (try k_fold))); (case' jb => clear F1; k_sweep; (with_reducible rename LedR _ _ _ _ _ _ _ _ _ _ _ _ _ _ => hLo); clear hLo; intro h' tk' m' nw' htk' hP' F' N'; (obtain ⟨⟨t2, t0, hm'⟩, hne', hL'⟩ := hP'); subst hm'; (obtain ⟨D, hD⟩ : ∃ D, bf.toList ++ P = D := ⟨_, rfl⟩); (have hDl : D.length ≤ 1001 := by rw [← hD, List.length_append]; exact Nat.le_trans (Nat.add_le_add hbl hPl) (Nat.le_of_ble_eq_true rfl)); (have hsl := split_len D); (rw [hD] at hne' F' hret); dsimp only at *; (try k_fold)))
  k_with "exec If" => ((with_reducible show wpAny _ _ (exec (Stmt.If (Expr.Compare (Expr.Call _ _ _ _) [CmpOp.Gt] _ _) _ _ _) _) _ _ _); (rename Fr _ _ _ _ => F1); k_dflt (refine' join_if (n := 1) F1 (fun m' nw => (∃ (t2 t0 : Tok), ∀ y, y ≠ Str.ofString "lastv" → m' y = if y = Str.ofString "data" then some (Value.str (S (split D).1) t2) else if y = Str.ofString "chunkSize" then some (Value.int (size : Int) t0) else List.lookup y [(Str.ofString "chunkSize", v), (Str.ofString "self", Value.ref x)]) ∧ LedR w R rest ad x [] 0 0 er (p.1 : Int) (p.2 : Int) (split D).2 ((pla + P.length : Nat) : Int) nw) ?jc ?jd); (case' jc => (try k_fold)); (case' jd => clear F1; k_sweep; (with_reducible rename LedR _ _ _ _ _ _ _ _ _ _ _ _ _ _ => hLo); clear hLo; intro h' tk' m' nw' htk' hP' F' N'; (obtain ⟨⟨t2, t0, hm0⟩, hL'⟩ := hP'); (obtain ⟨u2, hm'⟩ := mixL hm0); subst hm'; clear hm0; (obtain ⟨⟨d1, d2⟩, hdd⟩ : ∃ dd, split D = dd := ⟨_, rfl⟩); (rw [hdd] at F' hL' hret hsl); dsimp only at *; (try k_fold)))
  k_with "exec If" => ((with_reducible show wpAny _ _ (exec (Stmt.If (Expr.Compare (Expr.Name _ _) [CmpOp.Is] _ _) _ _ _) _) _ _ _); (rename Fr _ _ _ _ => F1); (rename News _ _ _ _ => N1); k_dflt (refine' join_if (n := 0) F1 (fun m' nw => (∃ t0 : Tok, m' = fun y => if y = Str.ofString "chunkSize" then some (Value.int (size : Int) t0) else List.lookup y [(Str.ofString "chunkSize", v), (Str.ofString "self", Value.ref x)]) ∧ nw = news) ?je ?jf); (case' je => (unfold Hid at hv0; rcases hv0 with ⟨h1, h2⟩ | ⟨h1, h2, h3⟩ <;> subst h2); (try k_fold)); (case' jf => clear F1 N1; intro h' tk' m' nw' htk' hP' F' N'; (obtain ⟨⟨t0, hm'⟩, hn'⟩ := hP'); subst hm'; subst hn'; (try dsimp only); (try k_fold)))
  k_with "call ref" => (k_dflt ((refine' Spec.useM ?N0 ?q0 (errs_spec (by assumption) d1 _ ?hl ?hE) ?B ?F ?X ?N ?T ?hk ?hd ?hu ?_); (case N0 => k_asm); (case q0 => assumption); (case hl => lia); (case hE => lia); (case B => k_asm); (case F => k_asm); (case X => k_asm); (case T => k_asm); (case hk => first | exact rfl | assumption); (case N => first | k_asm | exact News.tl (by k_asm) | exact News.tl (News.tl (by k_asm)) | exact News.tl (News.tl (News.tl (by k_asm)))); (case hd => ktr_room); (case hu => ktr_units); (intro r' n' h' tk' hR' hle' F' N'); (obtain ⟨hr', hL'⟩ := hR'); subst hr'; (try dsimp only); (try k_fold)))
  k_dflt (refine' code_def (binds := [(Str.ofString "self", Value.ref x), (Str.ofString "chunkSize", v)]) ?k1 ?k2 ?k3 ?k4 ?k5 ?kA ?kF ?kK ?k6 ?k7 ?k8 ?k9 ?kB ?_ ?c2 ?c3 ?c4 ?c5; (case kA => exact rfl); (case kF => exact rfl); (case kK => assumption); (case k1 => k_asm); (case k2 => k_asm); (case k3 => k_asm); (case k4 => k_asm); (case k5 => k_asm); (case k6 => k_is); (case k7 => k_is); (case k8 => ktr_room); (case k9 => unfold Hid at hv0; rcases hv0 with ⟨h1, h2⟩ | ⟨h1, h2, h3⟩ <;> subst h1 <;> subst h2 <;> first | exact BindsTo.of_eq rfl | exact binds_K (by k_in) rfl (by k_is) rfl rfl rfl); (case c5 => decide); (case kB => exact locs rfl); (case c2 => exact rfl); (case c3 => exact rfl); (case c4 => exact rfl); k_whole; intro g' L' h' FG' F' N' B' X' T'; (try dsimp only); (try k_lift B'); (try k_fold))
  (rename Fr _ _ _ _ => F1)
  (with_unfolding_all change Fr _ _ _ (fun y => List.lookup y [(Str.ofString "chunkSize", v), (Str.ofString "self", Value.ref x)]) at F1)
  k_steps
  all_goals first
    | (refine hret _ _ _ _ ⟨congrArg Value.bool (decide_eq_true hne').symm, ?_⟩ (by assumption) (by assumption); assumption)
    | (have hs := split_yes (l := D) (by lia) (by lia)
       rw [hs]
       refine' join_end (by assumption) ?N1 (by lia) ⟨⟨_, t0, by first | exact off_a | exact off_b | exact fun _ _ => rfl⟩, by assumption⟩
       (case N1 => first | assumption | exact News.tl (by assumption) | exact News.tl (News.tl (by assumption)) | exact News.tl (News.tl (News.tl (by assumption)))))
    | (have hs := split_no (l := D) (by lia)
       rw [hs]
       refine' join_end (by assumption) ?N2 (by lia) ⟨⟨_, t0, by first | exact off_a | exact off_b | exact fun _ _ => rfl⟩, by assumption⟩
       (case N2 => first | assumption | exact News.tl (by assumption) | exact News.tl (News.tl (by assumption)) | exact News.tl (News.tl (News.tl (by assumption)))))
    | exact absurd (List.cons_ne_nil _ _) (by assumption)
    | (refine' join_end (by assumption) ?N3 (by lia) ⟨⟨_, t0, rfl⟩, by assumption, by assumption⟩
       (case N3 => first | assumption | exact News.tl (by assumption) | exact News.tl (News.tl (by assumption)) | exact News.tl (News.tl (News.tl (by assumption)))))
    | (refine' join_end (by assumption) ?N4 (by lia) ⟨⟨_, t0, cut_if⟩, List.cons_ne_nil _ _, by assumption⟩
       (case N4 => first | assumption | exact News.tl (by assumption) | exact News.tl (News.tl (by assumption)) | exact News.tl (News.tl (News.tl (by assumption)))))
    | (have hz : P = [] := Decidable.not_not.mp (by assumption)
       subst hz
       exact hret _ _ _ _ ⟨rfl, by assumption⟩ (by assumption) (by assumption))
    | (subst h3
       refine join_end (by assumption) (by assumption) (Nat.zero_le _) ⟨⟨_, rfl⟩, rfl⟩)
    | exact join_end (by assumption) (by assumption) (Nat.zero_le _) ⟨⟨t, look_if⟩, rfl⟩
    | trace_state
end
section
variable {w : World} {mean : ExcName → Option Value} {mg mb : Str → Option Value} {R : List Nat} {rest : List (Addr × Obj)} {ad : List Nat} {x : Nat} {st : St} {news : List (Addr × Obj)}
theorem chunk_spec (hL : LedIs w R rest ad x st news) (size : Nat) (t : Tok)
    (hR : R.length ≤ 1000) (hp : st.place ≤ 1000) (hc : st.chunk.length ≤ 10000) (he : st.errs ≤ 100000) (hsz : size ≤ 100000) :
    Spec w mean mg mb 106 [.ref x, .int (size : Int) t] 40 300 news (fun v n => v = .bool (decide (st.data R size ≠ [])) ∧ LedIs w R rest ad x (st.fetch R size) n) :=
  chunk_gen hL size t _ _ (.inl ⟨rfl, rfl⟩) hR hp hc he hsz
theorem chunk0_spec (hL : LedIs w R rest ad x st news)
    (hR : R.length ≤ 1000) (hp : st.place ≤ 1000) (hc : st.chunk.length ≤ 10000) (he : st.errs ≤ 100000) :
    Spec w mean mg mb 106 [.ref x] 40 300 news (fun v n => v = .bool (decide (st.data R 10240 ≠ [])) ∧ LedIs w R rest ad x (st.fetch R 10240) n) :=
  chunk_gen hL 10240 0 _ _ (.inr ⟨rfl, rfl, rfl⟩) hR hp hc he (by decide)
end
section
variable {w : World} {mean : ExcName → Option Value} {mg mb : Str → Option Value} {R : List Nat} {rest : List (Addr × Obj)} {ad : List Nat} {x : Nat} {st : St} {news : List (Addr × Obj)}
set_option maxRecDepth 100000 in
set_option maxHeartbeats 8000000 in
theorem char_spec (hL : LedIs w R rest ad x st news)
    (hR : R.length ≤ 1000) (hp : st.place ≤ 1000) (hc : st.chunk.length ≤ 10000) (he : st.errs ≤ 100000) :
    Spec w mean mg mb 98 [.ref x] 50 400 news (fun v n => BufIs v (st.charR R).1 ∧ LedIs w R rest ad x (st.charR R).2 n) := by
  refine Spec.of ?_
  intro dp un gd cn cs a ccd cl outer A₀ base h₀ L m s Q E B F X N T hk hd hu hret
  have hfl : (St.fetch R 10240 st).chunk.length ≤ 2000 := fetch_len hR
  have hfn : st.data R 10240 ≠ [] → 0 < (St.fetch R 10240 st).chunk.length := fun h => List.length_pos_iff.mpr (fetch_ne h)
  have hf0 : (St.fetch R 10240 st).off = 0 := rfl
  have hch := chunk0_spec (mean := mean) (mg := mg) (mb := mb) hL hR hp hc he
  unfold St.charR at hret
  generalize St.fetch R 10240 st = st2 at *
  generalize st.data R 10240 = dat at *
  obtain ⟨ck, of, er, pl, pc, bf, pla⟩ := st
  obtain ⟨ck2, of2, er2, pl2, pc2, bf2, pla2⟩ := st2
  unfold LedIs at hL
  dsimp only at *
  subst hf0
  k_with_none
  k_with "tb" => (first | assumption | (apply le3; assumption; exact rfl) | lia | (simp only [List.length_append, List.length_cons, List.length_nil, List.length_take, List.length_drop, List.length_dropLast, crs_len, partOf_len] at *; lia) | ((with_reducible refine Nat.le_trans (crlf_len _) ?_); tb_start) | ((with_reducible refine Nat.le_trans (split_len _) ?_); tb_start) | ((with_reducible refine Nat.le_trans (norm_len _) ?_); tb_start))
  k_with "call builtin:str.count" => (refine count4 (by decide +kernel) (by first | assumption | lia) ?_)
  k_with "call builtin:str.rfind" => (refine rfind4 (by decide +kernel) (by first | assumption | lia) ?_)
  k_with "call builtin:str.replace" => ((try dsimp only at *); k_dflt (refine repl_crlf_S (by decide +kernel) (by decide +kernel) (by k_ne) (by k_ne) (by k_ne) (by tb_start) ?_); intro _ _ _)
  k_with "call builtin:str.replace" => ((try dsimp only at *); k_dflt (refine repl_cr_S (by decide +kernel) (by decide +kernel) (by k_ne) (by k_ne) (by k_ne) (by tb_start) ?_); intro _ _ _)
  k_with "call builtin:len" => ((with_reducible show wpAny _ _ (call (Value.builtin "len") [Value.str (S _) _]) _ _ _); refine len_S (by tb_start) ?_)
  k_with "call builtin:ord" => ((with_reducible show wpAny _ _ (call (Value.builtin "ord") [Value.str (S _) _]) _ _ _); refine ord_S ?_)
  k_with "binaryOp Add str str" => ((with_reducible show wpAny _ _ (binaryOp Operator.Add (Value.str (S _) _) (Value.str (S _) _)) _ _ _); refine add_S (by tb_start) ?_; intro _ _)
  k_with "inplaceOp Add str str" => ((with_reducible show wpAny _ _ (inplaceOp Operator.Add (Value.str (S _) _) (Value.str (S _) _)) _ _ _); refine iadd_S (by tb_start) ?_; intro _ _)
  k_with "truthy str" => ((with_reducible show wpAny _ _ (truthy (Value.str (S _) _)) _ _ _); refine truthy_S (by tb_start) ?_)
  k_with "compareOp Eq str str" => ((with_reducible show wpAny _ _ (compareOp CmpOp.Eq (Value.str (S _) _) (Value.str (S _) _)) _ _ _); refine eq_S ?_)
  k_with "compareOp NotEq str str" => ((with_reducible show wpAny _ _ (compareOp CmpOp.NotEq (Value.str (S _) _) (Value.str (S _) _)) _ _ _); refine ne_S ?_)
  k_with "subscriptTail Name Slice str ref" => (k_here; (with_reducible rename Fr _ _ _ _ => F'); (with_reducible rename News _ _ _ _ => N'); k_dflt (refine drop_S (s := ⟨_, _, _, _, _⟩) F' N' (by tb_start) ?_); intro _ _ _ _ _; (try k_sweep))
  k_with "subscriptTail Name Slice str ref" => (k_here; (with_reducible rename Fr _ _ _ _ => F'); (with_reducible rename News _ _ _ _ => N'); k_dflt (refine take_S (s := ⟨_, _, _, _, _⟩) F' N' (by tb_start) ?_); intro _ _ _ _ _; (try k_sweep))
  k_with "subscriptTail Name Slice str ref" => (k_here; (with_reducible rename Fr _ _ _ _ => F'); (with_reducible rename News _ _ _ _ => N'); k_dflt (refine mid_S (s := ⟨_, _, _, _, _⟩) F' N' (by tb_start) ?_); intro _ _ _ _ _; (try k_sweep))
  k_with "subscriptTail Name Slice str ref" => (k_here; (with_reducible rename Fr _ _ _ _ => F'); (with_reducible rename News _ _ _ _ => N'); k_dflt (refine part_S (s := ⟨_, _, _, _, _⟩) F' N' (by tb_start) ?_); intro _ _ _ _ _; (try k_sweep))
  k_with "subscriptTail Name Slice str ref" => (k_here; (with_reducible rename Fr _ _ _ _ => F'); (with_reducible rename News _ _ _ _ => N'); k_dflt (refine init_S (s := ⟨_, _, _, _, _⟩) F' N' (by tb_start) ?_); intro _ _ _ _ _; (try k_sweep))
  k_with "subscriptTail Name UnaryOp str int" => (k_here; (with_reducible show wpAny _ _ (subscriptTail _ _ (Value.str (S _) _) (Value.int _ _)) _ _ _); k_dflt (first | (refine last_S (by first | assumption | (intro hz; simp only [hz, List.length_nil] at *; lia)) (by tb_start) ?_) | (refine item_S (by first | assumption | lia | k_extra "my item") (by tb_start) ?_)))
  k_with "subscriptTail Name Name str int" => (k_here; (with_reducible show wpAny _ _ (subscriptTail _ _ (Value.str (S _) _) (Value.int _ _)) _ _ _); first | (with_reducible refine item_S (by k_dflt (first | assumption | lia | k_extra "my item")) (by k_dflt tb_start) ?_) | k_dflt (refine item_Si (by lia) (by first | lia | k_extra "my item") (by tb_start) ?_))
  k_with "subscriptTail Name Constant str int" => (k_here; (with_reducible show wpAny _ _ (subscriptTail _ _ (Value.str (S _) _) (Value.int _ _)) _ _ _); first | (with_reducible refine item_S (by k_dflt (first | assumption | lia | k_extra "my item")) (by k_dflt tb_start) ?_) | k_dflt (refine item_Si (by lia) (by first | lia | k_extra "my item") (by tb_start) ?_))
  k_with "subscriptTail Name BinOp str int" => (k_here; (with_reducible show wpAny _ _ (subscriptTail _ _ (Value.str (S _) _) (Value.int _ _)) _ _ _); first | (with_reducible refine item_S (by k_dflt (first | assumption | lia | k_extra "my item")) (by k_dflt tb_start) ?_) | k_dflt (refine item_Si (by lia) (by first | lia | k_extra "my item") (by tb_start) ?_))
  k_with "subscriptTail Attribute Name str int" => (k_here; (with_reducible show wpAny _ _ (subscriptTail _ _ (Value.str (S _) _) (Value.int _ _)) _ _ _); first | (with_reducible refine item_S (by k_dflt (first | assumption | lia | k_extra "my item")) (by k_dflt tb_start) ?_) | k_dflt (refine item_Si (by lia) (by first | lia | k_extra "my item") (by tb_start) ?_))
  k_with "subscriptTail Attribute Constant str int" => (k_here; (with_reducible show wpAny _ _ (subscriptTail _ _ (Value.str (S _) _) (Value.int _ _)) _ _ _); first | (with_reducible refine item_S (by k_dflt (first | assumption | lia | k_extra "my item")) (by k_dflt tb_start) ?_) | k_dflt (refine item_Si (by lia) (by first | lia | k_extra "my item") (by tb_start) ?_))
  k_with "subscriptTail Attribute Attribute str int" => (k_here; (with_reducible show wpAny _ _ (subscriptTail _ _ (Value.str (S _) _) (Value.int _ _)) _ _ _); first | (with_reducible refine item_S (by k_dflt (first | assumption | lia | k_extra "my item")) (by k_dflt tb_start) ?_) | k_dflt (refine item_Si (by lia) (by first | lia | k_extra "my item") (by tb_start) ?_))
  k_with "truthy ref" => (k_here; k_dflt (refine' truthy_meth ?N ?q ?_; (case N => k_asm); (case q => k_mem); k_whole))
  k_with "exec For Name Name cons nil" => (k_here; (with_reducible rename Fr _ _ _ _ => lF'); k_dflt (refine' For_invVF lF' ?k1 ?k2 ?_; (case k1 => exact rfl); (case k2 => exact rfl); k_whole))
  k_with "exec For Name Subscript cons nil" => (k_here; (with_reducible rename Fr _ _ _ _ => lF'); k_dflt (refine' For_invVF lF' ?k1 ?k2 ?_; (case k1 => exact rfl); (case k2 => exact rfl); k_whole))
  k_with "all" => (refine List.forall_mem_append.mpr ⟨?a, ?b⟩; (case a => k_all); (case b => k_all))
  k_with "rel" => (simp only [List.size_toArray]; rw [PySem.sizeLine_eq]; lia)
  k_with "call builtin:list.append" => (k_here; (with_reducible show wpAny _ _ (call (Value.builtin _) [Value.ref _, _]) _ _ _); k_dflt (refine' append_K ?k1 ?k2 ?k3 ?_ ?z; (case k1 => k_asm); (case k2 => k_asm); (case k3 => k_upd); (case z => tb_rel); k_whole); intro h' F' N'; (try simp only [List.push_toArray] at N'); (try k_sweep))
  k_with "enter" => (refine' code_def ?k1 ?k2 ?k3 ?k4 ?k5 ?kA ?kF ?kK ?k6 ?k7 ?k8 ?k9 ?kB ?_ ?c2 ?c3 ?c4 ?c5; (case kA => exact rfl); (case kF => exact rfl); (case kK => assumption); (case k1 => k_asm); (case k2 => k_asm); (case k3 => k_asm); (case k4 => k_asm); (case k5 => k_asm); (case k6 => k_is); (case k7 => k_is); (case k8 => ktr_room); (case k9 => first | exact BindsTo.of_eq rfl | exact binds_K (by k_in) rfl (by k_is) rfl rfl rfl); (case c5 => decide); (case kB => exact locs rfl); (case c2 => exact rfl); (case c3 => exact rfl); (case c4 => exact rfl); k_whole; intro g' L' h' FG' F' N' B' X' T'; (try dsimp only); (try k_lift B'); (try k_fold))
  k_with "JoinP" => (dsimp only [JoinP])
  k_with "subscriptTail" => (k_here; (with_reducible show wpAny _ _ (subscriptTail _ _ (Value.str (S _) _) (Value.int _ _)) _ _ _); first | (with_reducible refine item_S (by k_dflt (first | assumption | lia | k_extra "my item")) (by k_dflt tb_start) ?_) | k_dflt (refine item_Si (by lia) (by first | lia | k_extra "my item") (by tb_start) ?_))
  k_with "compareOp Eq str str" => ((with_reducible show wpAny _ _ (compareOp CmpOp.Eq (Value.str (S _) _) (Value.str (Str.ofString _) _)) _ _ _); k_dflt (first | refine eq_lit [13] (by decide +kernel) ?_ | refine eq_lit [10] (by decide +kernel) ?_))
  k_with "compareOp NotEq str str" => ((with_reducible show wpAny _ _ (compareOp CmpOp.NotEq (Value.str (S _) _) (Value.str (Str.ofString _) _)) _ _ _); k_dflt (first | refine ne_lit [13] (by decide +kernel) ?_ | refine ne_lit [10] (by decide +kernel) ?_))
  k_with "inplaceOp Add str str" => ((with_reducible show wpAny _ _ (inplaceOp Operator.Add (Value.str (S _) _) (Value.str (Str.ofString _) _)) _ _ _); k_dflt (refine iadd_lit [10] (by decide +kernel) (by tb_start) ?_); intro _ _)
  k_with "room" => (k_dflt ((first | apply room4 | apply room3 | apply room2 | apply room1 | apply room0 | apply roomz); assumption; exact rfl))
  k_with "getAttr ref" => ((with_reducible show wpAny _ _ (getAttr (Value.ref _) (Str.ofString "chunk") _) _ _ _); k_dflt (refine g_chunk (by assumption) (by k_asm) (by k_asm) ?N ?_; (case N => first | k_asm | exact News.tl (by k_asm) | exact News.tl (News.tl (by k_asm)) | exact News.tl (News.tl (News.tl (by k_asm))))); intro _)
  k_with "getAttr ref" => ((with_reducible show wpAny _ _ (getAttr (Value.ref _) (Str.ofString "chunkSize") _) _ _ _); k_dflt (refine g_size (by assumption) (by k_asm) (by k_asm) ?N ?_; (case N => first | k_asm | exact News.tl (by k_asm) | exact News.tl (News.tl (by k_asm)) | exact News.tl (News.tl (News.tl (by k_asm))))); intro _)
  k_with "getAttr ref" => ((with_reducible show wpAny _ _ (getAttr (Value.ref _) (Str.ofString "chunkOffset") _) _ _ _); k_dflt (refine g_off (by assumption) (by k_asm) (by k_asm) ?N ?_; (case N => first | k_asm | exact News.tl (by k_asm) | exact News.tl (News.tl (by k_asm)) | exact News.tl (News.tl (News.tl (by k_asm))))); intro _)
  k_with "getAttr ref" => ((with_reducible show wpAny _ _ (getAttr (Value.ref _) (Str.ofString "prevNumLines") _) _ _ _); k_dflt (refine g_pl (by assumption) (by k_asm) (by k_asm) ?N ?_; (case N => first | k_asm | exact News.tl (by k_asm) | exact News.tl (News.tl (by k_asm)) | exact News.tl (News.tl (News.tl (by k_asm))))); intro _)
  k_with "getAttr ref" => ((with_reducible show wpAny _ _ (getAttr (Value.ref _) (Str.ofString "prevNumCols") _) _ _ _); k_dflt (refine g_pc (by assumption) (by k_asm) (by k_asm) ?N ?_; (case N => first | k_asm | exact News.tl (by k_asm) | exact News.tl (News.tl (by k_asm)) | exact News.tl (News.tl (News.tl (by k_asm))))); intro _)
  k_with "getAttr ref" => ((with_reducible show wpAny _ _ (getAttr (Value.ref _) (Str.ofString "errors") _) _ _ _); k_dflt (refine g_errors (by assumption) (by k_asm) (by k_asm) ?N ?_; (case N => first | k_asm | exact News.tl (by k_asm) | exact News.tl (News.tl (by k_asm)) | exact News.tl (News.tl (News.tl (by k_asm))))); intro _ hE1)
  k_with "getAttr ref" => ((with_reducible show wpAny _ _ (getAttr (Value.ref _) (Str.ofString "dataStream") _) _ _ _); k_dflt (refine g_stream (by assumption) (by k_asm) (by k_asm) ?N ?_; (case N => first | k_asm | exact News.tl (by k_asm) | exact News.tl (News.tl (by k_asm)) | exact News.tl (News.tl (News.tl (by k_asm))))); intro _ hT1)
  k_with "getAttr ref" => ((with_reducible show wpAny _ _ (getAttr (Value.ref _) (Str.ofString "_bufferedCharacter") _) _ _ _); k_dflt (refine g_buf (by assumption) (by k_asm) (by k_asm) ?N ?_; (case N => first | k_asm | exact News.tl (by k_asm) | exact News.tl (News.tl (by k_asm)) | exact News.tl (News.tl (News.tl (by k_asm))))); intro _ hB1; (try cases hB1))
  k_with "getAttr ref" => ((with_reducible show wpAny _ _ (getAttr (Value.ref _) (Str.ofString "reportCharacterErrors") _) _ _ _); k_dflt (refine g_rep (by assumption) (by k_asm) (by k_asm) ?N ?_; (case N => first | k_asm | exact News.tl (by k_asm) | exact News.tl (News.tl (by k_asm)) | exact News.tl (News.tl (News.tl (by k_asm))))); intro _ hR1)
  k_with "getAttr ref" => ((with_reducible show wpAny _ _ (getAttr (Value.ref _) (Str.ofString "_defaultChunkSize") _) _ _ _); k_dflt (refine g_dflt (by assumption) (by k_asm) (by k_asm) ?N ?_; (case N => first | k_asm | exact News.tl (by k_asm) | exact News.tl (News.tl (by k_asm)) | exact News.tl (News.tl (News.tl (by k_asm))))); intro _)
  k_with "getAttr ref" => ((with_reducible show wpAny _ _ (getAttr (Value.ref _) (Str.ofString "text") _) _ _ _); k_dflt (refine g_text (by assumption) (by assumption) (by k_asm) (by k_asm) ?N ?_; (case N => first | k_asm | exact News.tl (by k_asm) | exact News.tl (News.tl (by k_asm)) | exact News.tl (News.tl (News.tl (by k_asm))))); intro _)
  k_with "getAttr ref" => ((with_reducible show wpAny _ _ (getAttr (Value.ref _) (Str.ofString "place") _) _ _ _); k_dflt (refine g_place (by assumption) (by assumption) (by k_asm) (by k_asm) ?N ?_; (case N => first | k_asm | exact News.tl (by k_asm) | exact News.tl (News.tl (by k_asm)) | exact News.tl (News.tl (News.tl (by k_asm))))); intro _)
  k_with "setAttr ref" => ((with_reducible show wpAny _ _ (setAttr (Value.ref _) (Str.ofString "chunk") _) _ _ _); (with_reducible rename LedR _ _ _ _ _ _ _ _ _ _ _ _ _ _ => hLo); k_dflt (refine s_chunk hLo (by k_asm) (by k_asm) ?N ?_; (case N => first | k_asm | exact News.tl (by k_asm) | exact News.tl (News.tl (by k_asm)) | exact News.tl (News.tl (News.tl (by k_asm))))); intro h' n' F' N' hL'; (try k_sweep); clear hLo)
  k_with "setAttr ref" => ((with_reducible show wpAny _ _ (setAttr (Value.ref _) (Str.ofString "chunk") (Value.str (Str.ofString "") _)) _ _ _); (with_reducible rename LedR _ _ _ _ _ _ _ _ _ _ _ _ _ _ => hLo); k_dflt (refine s_chunk0 hLo (by k_asm) (by k_asm) ?N ?_; (case N => first | k_asm | exact News.tl (by k_asm) | exact News.tl (News.tl (by k_asm)) | exact News.tl (News.tl (News.tl (by k_asm))))); intro h' n' F' N' hL'; (try k_sweep); clear hLo)
  k_with "setAttr ref" => ((with_reducible show wpAny _ _ (setAttr (Value.ref _) (Str.ofString "chunkSize") _) _ _ _); (with_reducible rename LedR _ _ _ _ _ _ _ _ _ _ _ _ _ _ => hLo); k_dflt (refine s_size hLo (by k_asm) (by k_asm) ?N ?_; (case N => first | k_asm | exact News.tl (by k_asm) | exact News.tl (News.tl (by k_asm)) | exact News.tl (News.tl (News.tl (by k_asm))))); intro h' n' F' N' hL'; (try k_sweep); clear hLo)
  k_with "setAttr ref" => ((with_reducible show wpAny _ _ (setAttr (Value.ref _) (Str.ofString "chunkOffset") _) _ _ _); (with_reducible rename LedR _ _ _ _ _ _ _ _ _ _ _ _ _ _ => hLo); k_dflt (refine s_off hLo (by k_asm) (by k_asm) ?N ?_; (case N => first | k_asm | exact News.tl (by k_asm) | exact News.tl (News.tl (by k_asm)) | exact News.tl (News.tl (News.tl (by k_asm))))); intro h' n' F' N' hL'; (try k_sweep); clear hLo)
  k_with "setAttr ref" => ((with_reducible show wpAny _ _ (setAttr (Value.ref _) (Str.ofString "prevNumLines") _) _ _ _); (with_reducible rename LedR _ _ _ _ _ _ _ _ _ _ _ _ _ _ => hLo); k_dflt (refine s_pl hLo (by k_asm) (by k_asm) ?N ?_; (case N => first | k_asm | exact News.tl (by k_asm) | exact News.tl (News.tl (by k_asm)) | exact News.tl (News.tl (News.tl (by k_asm))))); intro h' n' F' N' hL'; (try k_sweep); clear hLo)
  k_with "setAttr ref" => ((with_reducible show wpAny _ _ (setAttr (Value.ref _) (Str.ofString "prevNumCols") _) _ _ _); (with_reducible rename LedR _ _ _ _ _ _ _ _ _ _ _ _ _ _ => hLo); k_dflt (refine s_pc hLo (by k_asm) (by k_asm) ?N ?_; (case N => first | k_asm | exact News.tl (by k_asm) | exact News.tl (News.tl (by k_asm)) | exact News.tl (News.tl (News.tl (by k_asm))))); intro h' n' F' N' hL'; (try k_sweep); clear hLo)
  k_with "setAttr ref" => ((with_reducible show wpAny _ _ (setAttr (Value.ref _) (Str.ofString "_bufferedCharacter") _) _ _ _); (with_reducible rename LedR _ _ _ _ _ _ _ _ _ _ _ _ _ _ => hLo); k_dflt (refine s_buf (by first | exact BufIs.none | exact BufIs.some | assumption) hLo (by k_asm) (by k_asm) ?N ?_; (case N => first | k_asm | exact News.tl (by k_asm) | exact News.tl (News.tl (by k_asm)) | exact News.tl (News.tl (News.tl (by k_asm))))); intro h' n' F' N' hL'; (try k_sweep); clear hLo)
  k_with "setAttr ref" => ((with_reducible show wpAny _ _ (setAttr (Value.ref _) (Str.ofString "place") _) _ _ _); (with_reducible rename LedR _ _ _ _ _ _ _ _ _ _ _ _ _ _ => hLo); k_dflt (refine s_place hLo (by assumption) (by k_asm) (by k_asm) ?N ?_; (case N => first | k_asm | exact News.tl (by k_asm) | exact News.tl (News.tl (by k_asm)) | exact News.tl (News.tl (News.tl (by k_asm))))); intro h' n' F' N' hL'; (try k_sweep); clear hLo)
  k_with "getMethod ref" => ((with_reducible show wpAny _ _ (getMethod (Value.ref _) (Str.ofString "_position") _) _ _ _); k_dflt (refine m_pos_ (by assumption) (by k_asm) (by k_asm) ?N ?_; (case N => first | k_asm | exact News.tl (by k_asm) | exact News.tl (News.tl (by k_asm)) | exact News.tl (News.tl (News.tl (by k_asm))))))
  k_with "getMethod ref" => ((with_reducible show wpAny _ _ (getMethod (Value.ref _) (Str.ofString "position") _) _ _ _); k_dflt (refine m_pos (by assumption) (by k_asm) (by k_asm) ?N ?_; (case N => first | k_asm | exact News.tl (by k_asm) | exact News.tl (News.tl (by k_asm)) | exact News.tl (News.tl (News.tl (by k_asm))))))
  k_with "getMethod ref" => ((with_reducible show wpAny _ _ (getMethod (Value.ref _) (Str.ofString "char") _) _ _ _); k_dflt (refine m_char (by assumption) (by k_asm) (by k_asm) ?N ?_; (case N => first | k_asm | exact News.tl (by k_asm) | exact News.tl (News.tl (by k_asm)) | exact News.tl (News.tl (News.tl (by k_asm))))))
  k_with "getMethod ref" => ((with_reducible show wpAny _ _ (getMethod (Value.ref _) (Str.ofString "readChunk") _) _ _ _); k_dflt (refine m_chunk (by assumption) (by k_asm) (by k_asm) ?N ?_; (case N => first | k_asm | exact News.tl (by k_asm) | exact News.tl (News.tl (by k_asm)) | exact News.tl (News.tl (News.tl (by k_asm))))))
  k_with "getMethod ref" => ((with_reducible show wpAny _ _ (getMethod (Value.ref _) (Str.ofString "unget") _) _ _ _); k_dflt (refine m_unget (by assumption) (by k_asm) (by k_asm) ?N ?_; (case N => first | k_asm | exact News.tl (by k_asm) | exact News.tl (News.tl (by k_asm)) | exact News.tl (News.tl (News.tl (by k_asm))))))
  k_with "getMethod ref" => ((with_reducible show wpAny _ _ (getMethod (Value.ref _) (Str.ofString "charsUntil") _) _ _ _); k_dflt (refine m_until (by assumption) (by k_asm) (by k_asm) ?N ?_; (case N => first | k_asm | exact News.tl (by k_asm) | exact News.tl (News.tl (by k_asm)) | exact News.tl (News.tl (News.tl (by k_asm))))))
  k_with "getMethod ref" => ((with_reducible show wpAny _ _ (getMethod (Value.ref _) (Str.ofString "read") _) _ _ _); k_dflt (refine m_read (by assumption) (by assumption) (by k_asm) (by k_asm) ?N ?_; (case N => first | k_asm | exact News.tl (by k_asm) | exact News.tl (News.tl (by k_asm)) | exact News.tl (News.tl (News.tl (by k_asm))))))
  k_with "getMethod ref" => ((with_reducible show wpAny _ _ (getMethod (Value.ref _) (Str.ofString "reportCharacterErrors") _) _ _ _); k_dflt (refine m_rep (by assumption) (by k_asm) (by k_asm) ?N ?_; (case N => first | k_asm | exact News.tl (by k_asm) | exact News.tl (News.tl (by k_asm)) | exact News.tl (News.tl (News.tl (by k_asm))))); intro _ hR1)
  k_with "getMethod ref" => ((with_reducible show wpAny _ _ (getMethod (Value.ref _) (Str.ofString "append") _) _ _ _); k_dflt (refine m_append (by assumption) (by assumption) (by k_asm) (by k_asm) ?N ?_; (case N => first | k_asm | exact News.tl (by k_asm) | exact News.tl (News.tl (by k_asm)) | exact News.tl (News.tl (News.tl (by k_asm))))))
  k_with "call builtin:list.append" => ((with_reducible rename LedR _ _ _ _ _ _ _ _ _ _ _ _ _ _ => hLo); k_dflt (refine app_err hLo (by assumption) (by k_asm) (by k_asm) ?N (by lia) ?_; (case N => first | k_asm | exact News.tl (by k_asm) | exact News.tl (News.tl (by k_asm)) | exact News.tl (News.tl (News.tl (by k_asm))))); intro h' n' F' N' hL'; (try k_sweep); clear hLo)
  k_with "call ref" => ((with_reducible show wpAny _ _ (call (Value.ref 106) _) _ _ _); k_dflt ((refine' Spec.useV hch ?B ?F ?X ?N ?T ?hk ?hd ?hu ?_); (case B => k_asm); (case F => k_asm); (case X => k_asm); (case T => k_asm); (case hk => first | exact rfl | assumption); (case N => first | k_asm | exact News.tl (by k_asm) | exact News.tl (News.tl (by k_asm)) | exact News.tl (News.tl (News.tl (by k_asm)))); (case hd => ktr_room); (case hu => ktr_units); intro n' h' tk' hL' hle' F' N'; (clear hL); (unfold LedIs at hL'); (try dsimp only at *); (try k_fold)))
  k_with "my item" => exact hfn (by assumption)
  k_dflt (k_extra "enter")
  (rename Fr _ _ _ _ => F1)
  (with_unfolding_all change Fr _ _ _ (fun y => List.lookup y [(Str.ofString "self", Value.ref x)]) at F1)
  k_steps
  · rw [if_neg (by lia), if_neg (by assumption)] at hret
    exact hret _ _ _ _ ⟨BufIs.some, by assumption⟩ (by assumption) (by assumption)
  · rw [if_neg (by lia), if_pos (Decidable.not_not.mp (by assumption))] at hret
    exact hret _ _ _ _ ⟨BufIs.none, by assumption⟩ (by assumption) (by assumption)
  · rw [if_pos (by lia)] at hret
    exact hret _ _ _ _ ⟨BufIs.some, by assumption⟩ (by assumption) (by assumption)
end
section
variable {w : World} {mean : ExcName → Option Value} {mg mb : Str → Option Value} {R : List Nat} {rest : List (Addr × Obj)} {ad : List Nat} {x : Nat} {st st1 : St} {news : List (Addr × Obj)}
theorem char_some {c : Nat} (hc : st.charR R = (some c, st1)) (H : Spec w mean mg mb 98 [.ref x] 50 400 news (fun v n => BufIs v (st.charR R).1 ∧ LedIs w R rest ad x (st.charR R).2 n)) :
    Spec w mean mg mb 98 [.ref x] 50 400 news (fun v n => (∃ t, v = .str (S [c]) t) ∧ LedIs w R rest ad x st1 n) := by
  rw [hc] at H
  exact H.mono fun v n h => ⟨by cases h.1; exact ⟨_, rfl⟩, h.2⟩
theorem char_none (hc : st.charR R = (none, st1)) (H : Spec w mean mg mb 98 [.ref x] 50 400 news (fun v n => BufIs v (st.charR R).1 ∧ LedIs w R rest ad x (st.charR R).2 n)) :
    Spec w mean mg mb 98 [.ref x] 50 400 news (fun v n => v = .none ∧ LedIs w R rest ad x st1 n) := by
  rw [hc] at H
  exact H.mono fun v n h => ⟨by cases h.1; rfl, h.2⟩
end
section
variable {w : World} {mean : ExcName → Option Value} {mg mb : Str → Option Value} {R : List Nat} {rest : List (Addr × Obj)} {ad : List Nat} {x : Nat} {st : St} {news : List (Addr × Obj)}
set_option maxRecDepth 100000 in
set_option maxHeartbeats 8000000 in
theorem unget_spec (hL : LedIs w R rest ad x st news) (c : Nat) (t : Tok) (hc : st.chunk.length ≤ 10000) (ho : st.off ≤ st.chunk.length) (hk1 : 0 < st.off → st.chunk.getD (st.off - 1) 0 = c) :
    Spec w mean mg mb 128 [.ref x, .str (S [c]) t] 10 60 news (fun v n => v = .none ∧ LedIs w R rest ad x (st.unget c) n) := by
  refine Spec.of ?_
  intro dp un gd cn cs a ccd cl outer A₀ base h₀ L m s Q E B F X N T hk hd hu hret
  obtain ⟨ck, of, er, pl, pc, bf, pla⟩ := st
  unfold LedIs at hL
  unfold St.unget at hret
  dsimp only at *
  k_with_none
  k_with "tb" => (first | assumption | (apply le3; assumption; exact rfl) | lia | (simp only [List.length_append, List.length_cons, List.length_nil, List.length_take, List.length_drop, List.length_dropLast, crs_len, partOf_len] at *; lia) | ((with_reducible refine Nat.le_trans (crlf_len _) ?_); tb_start) | ((with_reducible refine Nat.le_trans (split_len _) ?_); tb_start) | ((with_reducible refine Nat.le_trans (norm_len _) ?_); tb_start))
  k_with "call builtin:str.count" => (refine count4 (by decide +kernel) (by first | assumption | lia) ?_)
  k_with "call builtin:str.rfind" => (refine rfind4 (by decide +kernel) (by first | assumption | lia) ?_)
  k_with "call builtin:str.replace" => ((try dsimp only at *); k_dflt (refine repl_crlf_S (by decide +kernel) (by decide +kernel) (by k_ne) (by k_ne) (by k_ne) (by tb_start) ?_); intro _ _ _)
  k_with "call builtin:str.replace" => ((try dsimp only at *); k_dflt (refine repl_cr_S (by decide +kernel) (by decide +kernel) (by k_ne) (by k_ne) (by k_ne) (by tb_start) ?_); intro _ _ _)
  k_with "call builtin:len" => ((with_reducible show wpAny _ _ (call (Value.builtin "len") [Value.str (S _) _]) _ _ _); refine len_S (by tb_start) ?_)
  k_with "call builtin:ord" => ((with_reducible show wpAny _ _ (call (Value.builtin "ord") [Value.str (S _) _]) _ _ _); refine ord_S ?_)
  k_with "binaryOp Add str str" => ((with_reducible show wpAny _ _ (binaryOp Operator.Add (Value.str (S _) _) (Value.str (S _) _)) _ _ _); refine add_S (by tb_start) ?_; intro _ _)
  k_with "inplaceOp Add str str" => ((with_reducible show wpAny _ _ (inplaceOp Operator.Add (Value.str (S _) _) (Value.str (S _) _)) _ _ _); refine iadd_S (by tb_start) ?_; intro _ _)
  k_with "truthy str" => ((with_reducible show wpAny _ _ (truthy (Value.str (S _) _)) _ _ _); refine truthy_S (by tb_start) ?_)
  k_with "compareOp Eq str str" => ((with_reducible show wpAny _ _ (compareOp CmpOp.Eq (Value.str (S _) _) (Value.str (S _) _)) _ _ _); refine eq_S ?_)
  k_with "compareOp NotEq str str" => ((with_reducible show wpAny _ _ (compareOp CmpOp.NotEq (Value.str (S _) _) (Value.str (S _) _)) _ _ _); refine ne_S ?_)
  k_with "subscriptTail Name Slice str ref" => (k_here; (with_reducible rename Fr _ _ _ _ => F'); (with_reducible rename News _ _ _ _ => N'); k_dflt (refine drop_S (s := ⟨_, _, _, _, _⟩) F' N' (by tb_start) ?_); intro _ _ _ _ _; (try k_sweep))
  k_with "subscriptTail Name Slice str ref" => (k_here; (with_reducible rename Fr _ _ _ _ => F'); (with_reducible rename News _ _ _ _ => N'); k_dflt (refine take_S (s := ⟨_, _, _, _, _⟩) F' N' (by tb_start) ?_); intro _ _ _ _ _; (try k_sweep))
  k_with "subscriptTail Name Slice str ref" => (k_here; (with_reducible rename Fr _ _ _ _ => F'); (with_reducible rename News _ _ _ _ => N'); k_dflt (refine mid_S (s := ⟨_, _, _, _, _⟩) F' N' (by tb_start) ?_); intro _ _ _ _ _; (try k_sweep))
  k_with "subscriptTail Name Slice str ref" => (k_here; (with_reducible rename Fr _ _ _ _ => F'); (with_reducible rename News _ _ _ _ => N'); k_dflt (refine part_S (s := ⟨_, _, _, _, _⟩) F' N' (by tb_start) ?_); intro _ _ _ _ _; (try k_sweep))
  k_with "subscriptTail Name Slice str ref" => (k_here; (with_reducible rename Fr _ _ _ _ => F'); (with_reducible rename News _ _ _ _ => N'); k_dflt (refine init_S (s := ⟨_, _, _, _, _⟩) F' N' (by tb_start) ?_); intro _ _ _ _ _; (try k_sweep))
  k_with "subscriptTail Name UnaryOp str int" => (k_here; (with_reducible show wpAny _ _ (subscriptTail _ _ (Value.str (S _) _) (Value.int _ _)) _ _ _); k_dflt (first | (refine last_S (by first | assumption | (intro hz; simp only [hz, List.length_nil] at *; lia)) (by tb_start) ?_) | (refine item_S (by first | assumption | lia | k_extra "my item") (by tb_start) ?_)))
  k_with "subscriptTail Name Name str int" => (k_here; (with_reducible show wpAny _ _ (subscriptTail _ _ (Value.str (S _) _) (Value.int _ _)) _ _ _); first | (with_reducible refine item_S (by k_dflt (first | assumption | lia | k_extra "my item")) (by k_dflt tb_start) ?_) | k_dflt (refine item_Si (by lia) (by first | lia | k_extra "my item") (by tb_start) ?_))
  k_with "subscriptTail Name Constant str int" => (k_here; (with_reducible show wpAny _ _ (subscriptTail _ _ (Value.str (S _) _) (Value.int _ _)) _ _ _); first | (with_reducible refine item_S (by k_dflt (first | assumption | lia | k_extra "my item")) (by k_dflt tb_start) ?_) | k_dflt (refine item_Si (by lia) (by first | lia | k_extra "my item") (by tb_start) ?_))
  k_with "subscriptTail Name BinOp str int" => (k_here; (with_reducible show wpAny _ _ (subscriptTail _ _ (Value.str (S _) _) (Value.int _ _)) _ _ _); first | (with_reducible refine item_S (by k_dflt (first | assumption | lia | k_extra "my item")) (by k_dflt tb_start) ?_) | k_dflt (refine item_Si (by lia) (by first | lia | k_extra "my item") (by tb_start) ?_))
  k_with "subscriptTail Attribute Name str int" => (k_here; (with_reducible show wpAny _ _ (subscriptTail _ _ (Value.str (S _) _) (Value.int _ _)) _ _ _); first | (with_reducible refine item_S (by k_dflt (first | assumption | lia | k_extra "my item")) (by k_dflt tb_start) ?_) | k_dflt (refine item_Si (by lia) (by first | lia | k_extra "my item") (by tb_start) ?_))
  k_with "subscriptTail Attribute Constant str int" => (k_here; (with_reducible show wpAny _ _ (subscriptTail _ _ (Value.str (S _) _) (Value.int _ _)) _ _ _); first | (with_reducible refine item_S (by k_dflt (first | assumption | lia | k_extra "my item")) (by k_dflt tb_start) ?_) | k_dflt (refine item_Si (by lia) (by first | lia | k_extra "my item") (by tb_start) ?_))
  k_with "subscriptTail Attribute Attribute str int" => (k_here; (with_reducible show wpAny _ _ (subscriptTail _ _ (Value.str (S _) _) (Value.int _ _)) _ _ _); first | (with_reducible refine item_S (by k_dflt (first | assumption | lia | k_extra "my item")) (by k_dflt tb_start) ?_) | k_dflt (refine item_Si (by lia) (by first | lia | k_extra "my item") (by tb_start) ?_))
  k_with "truthy ref" => (k_here; k_dflt (refine' truthy_meth ?N ?q ?_; (case N => k_asm); (case q => k_mem); k_whole))
  k_with "exec For Name Name cons nil" => (k_here; (with_reducible rename Fr _ _ _ _ => lF'); k_dflt (refine' For_invVF lF' ?k1 ?k2 ?_; (case k1 => exact rfl); (case k2 => exact rfl); k_whole))
  k_with "exec For Name Subscript cons nil" => (k_here; (with_reducible rename Fr _ _ _ _ => lF'); k_dflt (refine' For_invVF lF' ?k1 ?k2 ?_; (case k1 => exact rfl); (case k2 => exact rfl); k_whole))
  k_with "all" => (refine List.forall_mem_append.mpr ⟨?a, ?b⟩; (case a => k_all); (case b => k_all))
  k_with "rel" => (simp only [List.size_toArray]; rw [PySem.sizeLine_eq]; lia)
  k_with "call builtin:list.append" => (k_here; (with_reducible show wpAny _ _ (call (Value.builtin _) [Value.ref _, _]) _ _ _); k_dflt (refine' append_K ?k1 ?k2 ?k3 ?_ ?z; (case k1 => k_asm); (case k2 => k_asm); (case k3 => k_upd); (case z => tb_rel); k_whole); intro h' F' N'; (try simp only [List.push_toArray] at N'); (try k_sweep))
  k_with "enter" => (refine' code_def ?k1 ?k2 ?k3 ?k4 ?k5 ?kA ?kF ?kK ?k6 ?k7 ?k8 ?k9 ?kB ?_ ?c2 ?c3 ?c4 ?c5; (case kA => exact rfl); (case kF => exact rfl); (case kK => assumption); (case k1 => k_asm); (case k2 => k_asm); (case k3 => k_asm); (case k4 => k_asm); (case k5 => k_asm); (case k6 => k_is); (case k7 => k_is); (case k8 => ktr_room); (case k9 => first | exact BindsTo.of_eq rfl | exact binds_K (by k_in) rfl (by k_is) rfl rfl rfl); (case c5 => decide); (case kB => exact locs rfl); (case c2 => exact rfl); (case c3 => exact rfl); (case c4 => exact rfl); k_whole; intro g' L' h' FG' F' N' B' X' T'; (try dsimp only); (try k_lift B'); (try k_fold))
  k_with "JoinP" => (dsimp only [JoinP])
  k_with "subscriptTail" => (k_here; (with_reducible show wpAny _ _ (subscriptTail _ _ (Value.str (S _) _) (Value.int _ _)) _ _ _); first | (with_reducible refine item_S (by k_dflt (first | assumption | lia | k_extra "my item")) (by k_dflt tb_start) ?_) | k_dflt (refine item_Si (by lia) (by first | lia | k_extra "my item") (by tb_start) ?_))
  k_with "compareOp Eq str str" => ((with_reducible show wpAny _ _ (compareOp CmpOp.Eq (Value.str (S _) _) (Value.str (Str.ofString _) _)) _ _ _); k_dflt (first | refine eq_lit [13] (by decide +kernel) ?_ | refine eq_lit [10] (by decide +kernel) ?_))
  k_with "compareOp NotEq str str" => ((with_reducible show wpAny _ _ (compareOp CmpOp.NotEq (Value.str (S _) _) (Value.str (Str.ofString _) _)) _ _ _); k_dflt (first | refine ne_lit [13] (by decide +kernel) ?_ | refine ne_lit [10] (by decide +kernel) ?_))
  k_with "inplaceOp Add str str" => ((with_reducible show wpAny _ _ (inplaceOp Operator.Add (Value.str (S _) _) (Value.str (Str.ofString _) _)) _ _ _); k_dflt (refine iadd_lit [10] (by decide +kernel) (by tb_start) ?_); intro _ _)
  k_with "room" => (k_dflt ((first | apply room4 | apply room3 | apply room2 | apply room1 | apply room0 | apply roomz); assumption; exact rfl))
  k_with "getAttr ref" => ((with_reducible show wpAny _ _ (getAttr (Value.ref _) (Str.ofString "chunk") _) _ _ _); k_dflt (refine g_chunk (by assumption) (by k_asm) (by k_asm) ?N ?_; (case N => first | k_asm | exact News.tl (by k_asm) | exact News.tl (News.tl (by k_asm)) | exact News.tl (News.tl (News.tl (by k_asm))))); intro _)
  k_with "getAttr ref" => ((with_reducible show wpAny _ _ (getAttr (Value.ref _) (Str.ofString "chunkSize") _) _ _ _); k_dflt (refine g_size (by assumption) (by k_asm) (by k_asm) ?N ?_; (case N => first | k_asm | exact News.tl (by k_asm) | exact News.tl (News.tl (by k_asm)) | exact News.tl (News.tl (News.tl (by k_asm))))); intro _)
  k_with "getAttr ref" => ((with_reducible show wpAny _ _ (getAttr (Value.ref _) (Str.ofString "chunkOffset") _) _ _ _); k_dflt (refine g_off (by assumption) (by k_asm) (by k_asm) ?N ?_; (case N => first | k_asm | exact News.tl (by k_asm) | exact News.tl (News.tl (by k_asm)) | exact News.tl (News.tl (News.tl (by k_asm))))); intro _)
  k_with "getAttr ref" => ((with_reducible show wpAny _ _ (getAttr (Value.ref _) (Str.ofString "prevNumLines") _) _ _ _); k_dflt (refine g_pl (by assumption) (by k_asm) (by k_asm) ?N ?_; (case N => first | k_asm | exact News.tl (by k_asm) | exact News.tl (News.tl (by k_asm)) | exact News.tl (News.tl (News.tl (by k_asm))))); intro _)
  k_with "getAttr ref" => ((with_reducible show wpAny _ _ (getAttr (Value.ref _) (Str.ofString "prevNumCols") _) _ _ _); k_dflt (refine g_pc (by assumption) (by k_asm) (by k_asm) ?N ?_; (case N => first | k_asm | exact News.tl (by k_asm) | exact News.tl (News.tl (by k_asm)) | exact News.tl (News.tl (News.tl (by k_asm))))); intro _)
  k_with "getAttr ref" => ((with_reducible show wpAny _ _ (getAttr (Value.ref _) (Str.ofString "errors") _) _ _ _); k_dflt (refine g_errors (by assumption) (by k_asm) (by k_asm) ?N ?_; (case N => first | k_asm | exact News.tl (by k_asm) | exact News.tl (News.tl (by k_asm)) | exact News.tl (News.tl (News.tl (by k_asm))))); intro _ hE1)
  k_with "getAttr ref" => ((with_reducible show wpAny _ _ (getAttr (Value.ref _) (Str.ofString "dataStream") _) _ _ _); k_dflt (refine g_stream (by assumption) (by k_asm) (by k_asm) ?N ?_; (case N => first | k_asm | exact News.tl (by k_asm) | exact News.tl (News.tl (by k_asm)) | exact News.tl (News.tl (News.tl (by k_asm))))); intro _ hT1)
  k_with "getAttr ref" => ((with_reducible show wpAny _ _ (getAttr (Value.ref _) (Str.ofString "_bufferedCharacter") _) _ _ _); k_dflt (refine g_buf (by assumption) (by k_asm) (by k_asm) ?N ?_; (case N => first | k_asm | exact News.tl (by k_asm) | exact News.tl (News.tl (by k_asm)) | exact News.tl (News.tl (News.tl (by k_asm))))); intro _ hB1; (try cases hB1))
  k_with "getAttr ref" => ((with_reducible show wpAny _ _ (getAttr (Value.ref _) (Str.ofString "reportCharacterErrors") _) _ _ _); k_dflt (refine g_rep (by assumption) (by k_asm) (by k_asm) ?N ?_; (case N => first | k_asm | exact News.tl (by k_asm) | exact News.tl (News.tl (by k_asm)) | exact News.tl (News.tl (News.tl (by k_asm))))); intro _ hR1)
  k_with "getAttr ref" => ((with_reducible show wpAny _ _ (getAttr (Value.ref _) (Str.ofString "_defaultChunkSize") _) _ _ _); k_dflt (refine g_dflt (by assumption) (by k_asm) (by k_asm) ?N ?_; (case N => first | k_asm | exact News.tl (by k_asm) | exact News.tl (News.tl (by k_asm)) | exact News.tl (News.tl (News.tl (by k_asm))))); intro _)
  k_with "getAttr ref" => ((with_reducible show wpAny _ _ (getAttr (Value.ref _) (Str.ofString "text") _) _ _ _); k_dflt (refine g_text (by assumption) (by assumption) (by k_asm) (by k_asm) ?N ?_; (case N => first | k_asm | exact News.tl (by k_asm) | exact News.tl (News.tl (by k_asm)) | exact News.tl (News.tl (News.tl (by k_asm))))); intro _)
  k_with "getAttr ref" => ((with_reducible show wpAny _ _ (getAttr (Value.ref _) (Str.ofString "place") _) _ _ _); k_dflt (refine g_place (by assumption) (by assumption) (by k_asm) (by k_asm) ?N ?_; (case N => first | k_asm | exact News.tl (by k_asm) | exact News.tl (News.tl (by k_asm)) | exact News.tl (News.tl (News.tl (by k_asm))))); intro _)
  k_with "setAttr ref" => ((with_reducible show wpAny _ _ (setAttr (Value.ref _) (Str.ofString "chunk") _) _ _ _); (with_reducible rename LedR _ _ _ _ _ _ _ _ _ _ _ _ _ _ => hLo); k_dflt (refine s_chunk hLo (by k_asm) (by k_asm) ?N ?_; (case N => first | k_asm | exact News.tl (by k_asm) | exact News.tl (News.tl (by k_asm)) | exact News.tl (News.tl (News.tl (by k_asm))))); intro h' n' F' N' hL'; (try k_sweep); clear hLo)
  k_with "setAttr ref" => ((with_reducible show wpAny _ _ (setAttr (Value.ref _) (Str.ofString "chunk") (Value.str (Str.ofString "") _)) _ _ _); (with_reducible rename LedR _ _ _ _ _ _ _ _ _ _ _ _ _ _ => hLo); k_dflt (refine s_chunk0 hLo (by k_asm) (by k_asm) ?N ?_; (case N => first | k_asm | exact News.tl (by k_asm) | exact News.tl (News.tl (by k_asm)) | exact News.tl (News.tl (News.tl (by k_asm))))); intro h' n' F' N' hL'; (try k_sweep); clear hLo)
  k_with "setAttr ref" => ((with_reducible show wpAny _ _ (setAttr (Value.ref _) (Str.ofString "chunkSize") _) _ _ _); (with_reducible rename LedR _ _ _ _ _ _ _ _ _ _ _ _ _ _ => hLo); k_dflt (refine s_size hLo (by k_asm) (by k_asm) ?N ?_; (case N => first | k_asm | exact News.tl (by k_asm) | exact News.tl (News.tl (by k_asm)) | exact News.tl (News.tl (News.tl (by k_asm))))); intro h' n' F' N' hL'; (try k_sweep); clear hLo)
  k_with "setAttr ref" => ((with_reducible show wpAny _ _ (setAttr (Value.ref _) (Str.ofString "chunkOffset") _) _ _ _); (with_reducible rename LedR _ _ _ _ _ _ _ _ _ _ _ _ _ _ => hLo); k_dflt (refine s_off hLo (by k_asm) (by k_asm) ?N ?_; (case N => first | k_asm | exact News.tl (by k_asm) | exact News.tl (News.tl (by k_asm)) | exact News.tl (News.tl (News.tl (by k_asm))))); intro h' n' F' N' hL'; (try k_sweep); clear hLo)
  k_with "setAttr ref" => ((with_reducible show wpAny _ _ (setAttr (Value.ref _) (Str.ofString "prevNumLines") _) _ _ _); (with_reducible rename LedR _ _ _ _ _ _ _ _ _ _ _ _ _ _ => hLo); k_dflt (refine s_pl hLo (by k_asm) (by k_asm) ?N ?_; (case N => first | k_asm | exact News.tl (by k_asm) | exact News.tl (News.tl (by k_asm)) | exact News.tl (News.tl (News.tl (by k_asm))))); intro h' n' F' N' hL'; (try k_sweep); clear hLo)
  k_with "setAttr ref" => ((with_reducible show wpAny _ _ (setAttr (Value.ref _) (Str.ofString "prevNumCols") _) _ _ _); (with_reducible rename LedR _ _ _ _ _ _ _ _ _ _ _ _ _ _ => hLo); k_dflt (refine s_pc hLo (by k_asm) (by k_asm) ?N ?_; (case N => first | k_asm | exact News.tl (by k_asm) | exact News.tl (News.tl (by k_asm)) | exact News.tl (News.tl (News.tl (by k_asm))))); intro h' n' F' N' hL'; (try k_sweep); clear hLo)
  k_with "setAttr ref" => ((with_reducible show wpAny _ _ (setAttr (Value.ref _) (Str.ofString "_bufferedCharacter") _) _ _ _); (with_reducible rename LedR _ _ _ _ _ _ _ _ _ _ _ _ _ _ => hLo); k_dflt (refine s_buf (by first | exact BufIs.none | exact BufIs.some | assumption) hLo (by k_asm) (by k_asm) ?N ?_; (case N => first | k_asm | exact News.tl (by k_asm) | exact News.tl (News.tl (by k_asm)) | exact News.tl (News.tl (News.tl (by k_asm))))); intro h' n' F' N' hL'; (try k_sweep); clear hLo)
  k_with "setAttr ref" => ((with_reducible show wpAny _ _ (setAttr (Value.ref _) (Str.ofString "place") _) _ _ _); (with_reducible rename LedR _ _ _ _ _ _ _ _ _ _ _ _ _ _ => hLo); k_dflt (refine s_place hLo (by assumption) (by k_asm) (by k_asm) ?N ?_; (case N => first | k_asm | exact News.tl (by k_asm) | exact News.tl (News.tl (by k_asm)) | exact News.tl (News.tl (News.tl (by k_asm))))); intro h' n' F' N' hL'; (try k_sweep); clear hLo)
  k_with "getMethod ref" => ((with_reducible show wpAny _ _ (getMethod (Value.ref _) (Str.ofString "_position") _) _ _ _); k_dflt (refine m_pos_ (by assumption) (by k_asm) (by k_asm) ?N ?_; (case N => first | k_asm | exact News.tl (by k_asm) | exact News.tl (News.tl (by k_asm)) | exact News.tl (News.tl (News.tl (by k_asm))))))
  k_with "getMethod ref" => ((with_reducible show wpAny _ _ (getMethod (Value.ref _) (Str.ofString "position") _) _ _ _); k_dflt (refine m_pos (by assumption) (by k_asm) (by k_asm) ?N ?_; (case N => first | k_asm | exact News.tl (by k_asm) | exact News.tl (News.tl (by k_asm)) | exact News.tl (News.tl (News.tl (by k_asm))))))
  k_with "getMethod ref" => ((with_reducible show wpAny _ _ (getMethod (Value.ref _) (Str.ofString "char") _) _ _ _); k_dflt (refine m_char (by assumption) (by k_asm) (by k_asm) ?N ?_; (case N => first | k_asm | exact News.tl (by k_asm) | exact News.tl (News.tl (by k_asm)) | exact News.tl (News.tl (News.tl (by k_asm))))))
  k_with "getMethod ref" => ((with_reducible show wpAny _ _ (getMethod (Value.ref _) (Str.ofString "readChunk") _) _ _ _); k_dflt (refine m_chunk (by assumption) (by k_asm) (by k_asm) ?N ?_; (case N => first | k_asm | exact News.tl (by k_asm) | exact News.tl (News.tl (by k_asm)) | exact News.tl (News.tl (News.tl (by k_asm))))))
  k_with "getMethod ref" => ((with_reducible show wpAny _ _ (getMethod (Value.ref _) (Str.ofString "unget") _) _ _ _); k_dflt (refine m_unget (by assumption) (by k_asm) (by k_asm) ?N ?_; (case N => first | k_asm | exact News.tl (by k_asm) | exact News.tl (News.tl (by k_asm)) | exact News.tl (News.tl (News.tl (by k_asm))))))
  k_with "getMethod ref" => ((with_reducible show wpAny _ _ (getMethod (Value.ref _) (Str.ofString "charsUntil") _) _ _ _); k_dflt (refine m_until (by assumption) (by k_asm) (by k_asm) ?N ?_; (case N => first | k_asm | exact News.tl (by k_asm) | exact News.tl (News.tl (by k_asm)) | exact News.tl (News.tl (News.tl (by k_asm))))))
  k_with "getMethod ref" => ((with_reducible show wpAny _ _ (getMethod (Value.ref _) (Str.ofString "read") _) _ _ _); k_dflt (refine m_read (by assumption) (by assumption) (by k_asm) (by k_asm) ?N ?_; (case N => first | k_asm | exact News.tl (by k_asm) | exact News.tl (News.tl (by k_asm)) | exact News.tl (News.tl (News.tl (by k_asm))))))
  k_with "getMethod ref" => ((with_reducible show wpAny _ _ (getMethod (Value.ref _) (Str.ofString "reportCharacterErrors") _) _ _ _); k_dflt (refine m_rep (by assumption) (by k_asm) (by k_asm) ?N ?_; (case N => first | k_asm | exact News.tl (by k_asm) | exact News.tl (News.tl (by k_asm)) | exact News.tl (News.tl (News.tl (by k_asm))))); intro _ hR1)
  k_with "getMethod ref" => ((with_reducible show wpAny _ _ (getMethod (Value.ref _) (Str.ofString "append") _) _ _ _); k_dflt (refine m_append (by assumption) (by assumption) (by k_asm) (by k_asm) ?N ?_; (case N => first | k_asm | exact News.tl (by k_asm) | exact News.tl (News.tl (by k_asm)) | exact News.tl (News.tl (News.tl (by k_asm))))))
  k_with "call builtin:list.append" => ((with_reducible rename LedR _ _ _ _ _ _ _ _ _ _ _ _ _ _ => hLo); k_dflt (refine app_err hLo (by assumption) (by k_asm) (by k_asm) ?N (by lia) ?_; (case N => first | k_asm | exact News.tl (by k_asm) | exact News.tl (News.tl (by k_asm)) | exact News.tl (News.tl (News.tl (by k_asm))))); intro h' n' F' N' hL'; (try k_sweep); clear hLo)
  have hk9 : 0 < of → [ck.getD ((of : Int) - 1).toNat 0] = [c] := fun h => by
    rw [show ((of : Int) - 1).toNat = of - 1 from Int.toNat_sub of 1, hk1 h]
  k_with "compareOp Eq str str" => ((with_reducible show wpAny _ _ (compareOp CmpOp.Eq (Value.str (S _) _) (Value.str (S _) _)) _ _ _); k_dflt (refine eq_yes (hk9 (by lia)) ?_))
  k_dflt (k_extra "enter")
  (rename Fr _ _ _ _ => F1)
  (with_unfolding_all change Fr _ _ _ (fun y => List.lookup y [(Str.ofString "char", Value.str (S [c]) t), (Str.ofString "self", Value.ref x)]) at F1)
  k_steps
  · rw [if_pos (by lia)] at hret
    exact hret _ _ _ _ ⟨rfl, by assumption⟩ (by assumption) (by assumption)
  · rw [if_neg (by lia)] at hret
    exact hret _ _ _ _ ⟨rfl, LedR.eq (by assumption) rfl rfl (by dsimp only; lia) rfl rfl rfl rfl rfl⟩ (by assumption) (by assumption)
set_option maxRecDepth 100000 in
set_option maxHeartbeats 8000000 in
theorem unget_none_spec (hL : LedIs w R rest ad x st news) :
    Spec w mean mg mb 128 [.ref x, .none] 10 60 news (fun v n => v = .none ∧ LedIs w R rest ad x st n) := by
  refine Spec.of ?_
  intro dp un gd cn cs a ccd cl outer A₀ base h₀ L m s Q E B F X N T hk hd hu hret
  k_with_none
  k_with "tb" => (first | assumption | (apply le3; assumption; exact rfl) | lia | (simp only [List.length_append, List.length_cons, List.length_nil, List.length_take, List.length_drop, List.length_dropLast, crs_len, partOf_len] at *; lia) | ((with_reducible refine Nat.le_trans (crlf_len _) ?_); tb_start) | ((with_reducible refine Nat.le_trans (split_len _) ?_); tb_start) | ((with_reducible refine Nat.le_trans (norm_len _) ?_); tb_start))
  k_with "call builtin:str.count" => (refine count4 (by decide +kernel) (by first | assumption | lia) ?_)
  k_with "call builtin:str.rfind" => (refine rfind4 (by decide +kernel) (by first | assumption | lia) ?_)
  k_with "call builtin:str.replace" => ((try dsimp only at *); k_dflt (refine repl_crlf_S (by decide +kernel) (by decide +kernel) (by k_ne) (by k_ne) (by k_ne) (by tb_start) ?_); intro _ _ _)
  k_with "call builtin:str.replace" => ((try dsimp only at *); k_dflt (refine repl_cr_S (by decide +kernel) (by decide +kernel) (by k_ne) (by k_ne) (by k_ne) (by tb_start) ?_); intro _ _ _)
  k_with "call builtin:len" => ((with_reducible show wpAny _ _ (call (Value.builtin "len") [Value.str (S _) _]) _ _ _); refine len_S (by tb_start) ?_)
  k_with "call builtin:ord" => ((with_reducible show wpAny _ _ (call (Value.builtin "ord") [Value.str (S _) _]) _ _ _); refine ord_S ?_)
  k_with "binaryOp Add str str" => ((with_reducible show wpAny _ _ (binaryOp Operator.Add (Value.str (S _) _) (Value.str (S _) _)) _ _ _); refine add_S (by tb_start) ?_; intro _ _)
  k_with "inplaceOp Add str str" => ((with_reducible show wpAny _ _ (inplaceOp Operator.Add (Value.str (S _) _) (Value.str (S _) _)) _ _ _); refine iadd_S (by tb_start) ?_; intro _ _)
  k_with "truthy str" => ((with_reducible show wpAny _ _ (truthy (Value.str (S _) _)) _ _ _); refine truthy_S (by tb_start) ?_)
  k_with "compareOp Eq str str" => ((with_reducible show wpAny _ _ (compareOp CmpOp.Eq (Value.str (S _) _) (Value.str (S _) _)) _ _ _); refine eq_S ?_)
  k_with "compareOp NotEq str str" => ((with_reducible show wpAny _ _ (compareOp CmpOp.NotEq (Value.str (S _) _) (Value.str (S _) _)) _ _ _); refine ne_S ?_)
  k_with "subscriptTail Name Slice str ref" => (k_here; (with_reducible rename Fr _ _ _ _ => F'); (with_reducible rename News _ _ _ _ => N'); k_dflt (refine drop_S (s := ⟨_, _, _, _, _⟩) F' N' (by tb_start) ?_); intro _ _ _ _ _; (try k_sweep))
  k_with "subscriptTail Name Slice str ref" => (k_here; (with_reducible rename Fr _ _ _ _ => F'); (with_reducible rename News _ _ _ _ => N'); k_dflt (refine take_S (s := ⟨_, _, _, _, _⟩) F' N' (by tb_start) ?_); intro _ _ _ _ _; (try k_sweep))
  k_with "subscriptTail Name Slice str ref" => (k_here; (with_reducible rename Fr _ _ _ _ => F'); (with_reducible rename News _ _ _ _ => N'); k_dflt (refine mid_S (s := ⟨_, _, _, _, _⟩) F' N' (by tb_start) ?_); intro _ _ _ _ _; (try k_sweep))
  k_with "subscriptTail Name Slice str ref" => (k_here; (with_reducible rename Fr _ _ _ _ => F'); (with_reducible rename News _ _ _ _ => N'); k_dflt (refine part_S (s := ⟨_, _, _, _, _⟩) F' N' (by tb_start) ?_); intro _ _ _ _ _; (try k_sweep))
  k_with "subscriptTail Name Slice str ref" => (k_here; (with_reducible rename Fr _ _ _ _ => F'); (with_reducible rename News _ _ _ _ => N'); k_dflt (refine init_S (s := ⟨_, _, _, _, _⟩) F' N' (by tb_start) ?_); intro _ _ _ _ _; (try k_sweep))
  k_with "subscriptTail Name UnaryOp str int" => (k_here; (with_reducible show wpAny _ _ (subscriptTail _ _ (Value.str (S _) _) (Value.int _ _)) _ _ _); k_dflt (first | (refine last_S (by first | assumption | (intro hz; simp only [hz, List.length_nil] at *; lia)) (by tb_start) ?_) | (refine item_S (by first | assumption | lia | k_extra "my item") (by tb_start) ?_)))
  k_with "subscriptTail Name Name str int" => (k_here; (with_reducible show wpAny _ _ (subscriptTail _ _ (Value.str (S _) _) (Value.int _ _)) _ _ _); first | (with_reducible refine item_S (by k_dflt (first | assumption | lia | k_extra "my item")) (by k_dflt tb_start) ?_) | k_dflt (refine item_Si (by lia) (by first | lia | k_extra "my item") (by tb_start) ?_))
  k_with "subscriptTail Name Constant str int" => (k_here; (with_reducible show wpAny _ _ (subscriptTail _ _ (Value.str (S _) _) (Value.int _ _)) _ _ _); first | (with_reducible refine item_S (by k_dflt (first | assumption | lia | k_extra "my item")) (by k_dflt tb_start) ?_) | k_dflt (refine item_Si (by lia) (by first | lia | k_extra "my item") (by tb_start) ?_))
  k_with "subscriptTail Name BinOp str int" => (k_here; (with_reducible show wpAny _ _ (subscriptTail _ _ (Value.str (S _) _) (Value.int _ _)) _ _ _); first | (with_reducible refine item_S (by k_dflt (first | assumption | lia | k_extra "my item")) (by k_dflt tb_start) ?_) | k_dflt (refine item_Si (by lia) (by first | lia | k_extra "my item") (by tb_start) ?_))
  k_with "subscriptTail Attribute Name str int" => (k_here; (with_reducible show wpAny _ _ (subscriptTail _ _ (Value.str (S _) _) (Value.int _ _)) _ _ _); first | (with_reducible refine item_S (by k_dflt (first | assumption | lia | k_extra "my item")) (by k_dflt tb_start) ?_) | k_dflt (refine item_Si (by lia) (by first | lia | k_extra "my item") (by tb_start) ?_))
  k_with "subscriptTail Attribute Constant str int" => (k_here; (with_reducible show wpAny _ _ (subscriptTail _ _ (Value.str (S _) _) (Value.int _ _)) _ _ _); first | (with_reducible refine item_S (by k_dflt (first | assumption | lia | k_extra "my item")) (by k_dflt tb_start) ?_) | k_dflt (refine item_Si (by lia) (by first | lia | k_extra "my item") (by tb_start) ?_))
  k_with "subscriptTail Attribute Attribute str int" => (k_here; (with_reducible show wpAny _ _ (subscriptTail _ _ (Value.str (S _) _) (Value.int _ _)) _ _ _); first | (with_reducible refine item_S (by k_dflt (first | assumption | lia | k_extra "my item")) (by k_dflt tb_start) ?_) | k_dflt (refine item_Si (by lia) (by first | lia | k_extra "my item") (by tb_start) ?_))
  k_with "truthy ref" => (k_here; k_dflt (refine' truthy_meth ?N ?q ?_; (case N => k_asm); (case q => k_mem); k_whole))
  k_with "exec For Name Name cons nil" => (k_here; (with_reducible rename Fr _ _ _ _ => lF'); k_dflt (refine' For_invVF lF' ?k1 ?k2 ?_; (case k1 => exact rfl); (case k2 => exact rfl); k_whole))
  k_with "exec For Name Subscript cons nil" => (k_here; (with_reducible rename Fr _ _ _ _ => lF'); k_dflt (refine' For_invVF lF' ?k1 ?k2 ?_; (case k1 => exact rfl); (case k2 => exact rfl); k_whole))
  k_with "all" => (refine List.forall_mem_append.mpr ⟨?a, ?b⟩; (case a => k_all); (case b => k_all))
  k_with "rel" => (simp only [List.size_toArray]; rw [PySem.sizeLine_eq]; lia)
  k_with "call builtin:list.append" => (k_here; (with_reducible show wpAny _ _ (call (Value.builtin _) [Value.ref _, _]) _ _ _); k_dflt (refine' append_K ?k1 ?k2 ?k3 ?_ ?z; (case k1 => k_asm); (case k2 => k_asm); (case k3 => k_upd); (case z => tb_rel); k_whole); intro h' F' N'; (try simp only [List.push_toArray] at N'); (try k_sweep))
  k_with "enter" => (refine' code_def ?k1 ?k2 ?k3 ?k4 ?k5 ?kA ?kF ?kK ?k6 ?k7 ?k8 ?k9 ?kB ?_ ?c2 ?c3 ?c4 ?c5; (case kA => exact rfl); (case kF => exact rfl); (case kK => assumption); (case k1 => k_asm); (case k2 => k_asm); (case k3 => k_asm); (case k4 => k_asm); (case k5 => k_asm); (case k6 => k_is); (case k7 => k_is); (case k8 => ktr_room); (case k9 => first | exact BindsTo.of_eq rfl | exact binds_K (by k_in) rfl (by k_is) rfl rfl rfl); (case c5 => decide); (case kB => exact locs rfl); (case c2 => exact rfl); (case c3 => exact rfl); (case c4 => exact rfl); k_whole; intro g' L' h' FG' F' N' B' X' T'; (try dsimp only); (try k_lift B'); (try k_fold))
  k_with "JoinP" => (dsimp only [JoinP])
  k_with "subscriptTail" => (k_here; (with_reducible show wpAny _ _ (subscriptTail _ _ (Value.str (S _) _) (Value.int _ _)) _ _ _); first | (with_reducible refine item_S (by k_dflt (first | assumption | lia | k_extra "my item")) (by k_dflt tb_start) ?_) | k_dflt (refine item_Si (by lia) (by first | lia | k_extra "my item") (by tb_start) ?_))
  k_with "compareOp Eq str str" => ((with_reducible show wpAny _ _ (compareOp CmpOp.Eq (Value.str (S _) _) (Value.str (Str.ofString _) _)) _ _ _); k_dflt (first | refine eq_lit [13] (by decide +kernel) ?_ | refine eq_lit [10] (by decide +kernel) ?_))
  k_with "compareOp NotEq str str" => ((with_reducible show wpAny _ _ (compareOp CmpOp.NotEq (Value.str (S _) _) (Value.str (Str.ofString _) _)) _ _ _); k_dflt (first | refine ne_lit [13] (by decide +kernel) ?_ | refine ne_lit [10] (by decide +kernel) ?_))
  k_with "inplaceOp Add str str" => ((with_reducible show wpAny _ _ (inplaceOp Operator.Add (Value.str (S _) _) (Value.str (Str.ofString _) _)) _ _ _); k_dflt (refine iadd_lit [10] (by decide +kernel) (by tb_start) ?_); intro _ _)
  k_with "room" => (k_dflt ((first | apply room4 | apply room3 | apply room2 | apply room1 | apply room0 | apply roomz); assumption; exact rfl))
  k_dflt (k_extra "enter")
  k_steps
  all_goals exact hret _ _ _ _ ⟨rfl, hL⟩ (by assumption) (by assumption)
end
section
variable {w : World} {mean : ExcName → Option Value} {mg mb : Str → Option Value} {R : List Nat} {rest : List (Addr × Obj)} {ad : List Nat} {x : Nat} {ck : List Nat} {sz of : Int} {er : Nat} {pl pc : Int} {bf : Option Nat} {pla : Int} {news : List (Addr × Obj)}
  {A : Around} {E : Value → Shared → Prop} {s : Shared} {h₀ : Heap} {L : Addr} {m : Str → Option Value} {D : Nat} {vs : List Value} {nn : Nat}
/-- a text's sign in what charsUntil is given -/
def InIs (w : World) (cv : Value) (P : Nat → Bool) (rest : List (Addr × Obj)) : Prop := ∀ (A : Around) (E Q : Value → Shared → Prop) (s : Shared) (h₀ : Heap) (L : Addr) (c : Nat) (t : Tok) (news : List (Addr × Obj)), News h₀ L s.heap news → (∀ p ∈ rest, p ∈ news) → c < 1114112 → A.units + 64 < cLine → (∀ tk', s.toks ≤ tk' → Q (.bool (P c)) { s with toks := tk' }) → wpAny (model PySem.Challenge.pw_te0074_04 w) A (compareOp .In (.str (S [c]) t) cv) Q E s
theorem m_rv {Q : Value × List Value → Shared → Prop} {sem : Sem Bool} (hL : LedR w R ((D, W.listOf vs.toArray nn) :: rest) ad x ck sz of er pl pc bf pla news) (F : Fr h₀ L s.heap m) (X : (hd04.heap_39 w.params).In h₀) (N : News h₀ L s.heap news) (h : Q (.builtin "list.append", [.ref D]) s) :
    wpAny (model PySem.Challenge.pw_te0074_04 w) A (getMethod (.ref D) (Str.ofString "append") sem) Q E s := by
  obtain ⟨hA, hO, h1, h9⟩ := hL
  walk1
  exact h
theorem app_rv {Q : Value → Shared → Prop} {v : Value} (hL : LedR w R ((D, W.listOf vs.toArray nn) :: rest) ad x ck sz of er pl pc bf pla news) (hD : ∀ p ∈ rest, p.1 ≠ D) (F : Fr h₀ L s.heap m) (N : News h₀ L s.heap news) (hs : vs.length ≤ 1000000) (h : ∀ h' n' nn', Fr h₀ L h' m → News h₀ L h' n' → LedR w R ((D, W.listOf (vs ++ [v]).toArray nn') :: rest) ad x ck sz of er pl pc bf pla n' → Q .none { s with heap := h' }) :
    wpAny (model PySem.Challenge.pw_te0074_04 w) A (call (.builtin "list.append") [.ref D, v]) Q E s := by
  obtain ⟨hA, hO, h1, h9⟩ := hL
  have hq := fun b hb => (hO _ (.head _) b hb).symm
  have q1 := hq _ (.head _)
  have q2 := hq _ (.tail _ (.head _))
  have q3 := hq _ (.tail _ (.tail _ (.head _)))
  have q4 := hq _ (.tail _ (.tail _ (.tail _ (.head _))))
  have q5 := hq _ (.tail _ (.tail _ (.tail _ (.tail _ (.head _)))))
  have q6 := hq _ (.tail _ (.tail _ (.tail _ (.tail _ (.tail _ (.head _))))))
  have q7 := hq _ (.tail _ (.tail _ (.tail _ (.tail _ (.tail _ (.tail _ (.head _)))))))
  refine append_K F N (.tail q1 (.tail q2 (.tail q3 (.tail q4 (.tail q5 (.tail q6 (.tail q7 (.head hD)))))))) (fun h' F' N' => ?_) ?_
  · rw [List.push_toArray] at N'
    refine h _ _ _ F' N' (.mk hA ?_ h1 h9)
    intro p hp
    rcases List.mem_cons.mp hp with rfl | hp
    · exact fun b hb => (hq b hb).symm
    · exact hO p (.tail _ hp)
  · rw [List.size_toArray, PySem.sizeLine_eq]; lia
end
theorem LedR.push3 {w : World} {R : List Nat} {rest : List (Addr × Obj)} {ad : List Nat} {x : Nat} {ck : List Nat} {sz of : Int} {er : Nat} {pl pc : Int} {bf : Option Nat} {pla : Int} {news : List (Addr × Obj)} {h₀ g : Heap} {L : Addr} {D : Nat} {o : Obj} (h : LedR w R rest ad x ck sz of er pl pc bf pla news) (hl : ∀ p ∈ news, p.1 < D) (N : News h₀ L g ((D, o) :: news)) :
    ∃ D', D' = D ∧ ∃ n2, LedR w R ((D', o) :: rest) ad x ck sz of er pl pc bf pla n2 ∧ News h₀ L g n2 ∧ ∀ p ∈ rest, p.1 ≠ D' := by
  obtain ⟨n2, h1, h2, _⟩ := LedR.push h hl N
  exact ⟨D, rfl, n2, h1, h2, fun p hp => Nat.ne_of_lt (hl p (LedR.mem_rest h hp))⟩
/-- the pieces of a run, in their list; k more may come -/
def Rv (k : Nat) (vs : List Value) (l : List Nat) : Prop := ∃ ls : List (List Nat), StrsAre vs (ls.map S) ∧ ls.flatten = l ∧ ls.length + k ≤ 60 ∧ ∀ y ∈ ls, y.length ≤ 100
theorem Rv.nil {k : Nat} (h : k ≤ 60) : Rv k [] [] := ⟨[], .nil, rfl, by simpa using h, fun y hy => by cases hy⟩
theorem Rv.snoc {k : Nat} {vs : List Value} {l y : List Nat} {t : Tok} (h : Rv (k + 1) vs l) (hy : y.length ≤ 100) : Rv k (vs ++ [.str (S y) t]) (l ++ y) := by
  obtain ⟨ls, h1, h2, h3, h4⟩ := h
  refine ⟨ls ++ [y], ?_, ?_, ?_, ?_⟩
  · rw [List.map_append]; exact kct_snoc h1
  · rw [List.flatten_append, h2]; simp
  · rw [List.length_append, List.length_singleton]; lia
  · intro z hz
    rcases List.mem_append.mp hz with h | h
    · exact h4 z h
    · rw [List.mem_singleton.mp h]; exact hy
theorem Rv.len {k : Nat} {vs : List Value} {l : List Nat} (h : Rv k vs l) : vs.length ≤ 60 := by
  obtain ⟨ls, h1, h2, h3, h4⟩ := h
  have := StrsAre.length h1
  rw [List.length_map] at this
  lia
theorem app_rv2 {w : World} {R : List Nat} {rest : List (Addr × Obj)} {ad : List Nat} {x : Nat} {ck : List Nat} {sz of : Int} {er : Nat} {pl pc : Int} {bf : Option Nat} {pla : Int} {news : List (Addr × Obj)} {A : Around} {E : Value → Shared → Prop} {s : Shared} {h₀ : Heap} {L : Addr} {m : Str → Option Value} {D : Nat} {vs : List Value} {nn k : Nat} {l y : List Nat} {t : Tok} {Q : Value → Shared → Prop}
    (hL : LedR w R ((D, W.listOf vs.toArray nn) :: rest) ad x ck sz of er pl pc bf pla news) (hD : ∀ p ∈ rest, p.1 ≠ D) (hR : Rv (k + 1) vs l) (hy : y.length ≤ 100) (F : Fr h₀ L s.heap m) (N : News h₀ L s.heap news) (h : ∀ h' n' nn' vs', Rv k vs' (l ++ y) → Fr h₀ L h' m → News h₀ L h' n' → LedR w R ((D, W.listOf vs'.toArray nn') :: rest) ad x ck sz of er pl pc bf pla n' → Q .none { s with heap := h' }) :
    wpAny (model PySem.Challenge.pw_te0074_04 w) A (call (.builtin "list.append") [.ref D, .str (S y) t]) Q E s :=
  app_rv hL hD F N (Nat.le_trans hR.len (by decide)) fun h' n' nn' F' N' hL' => h h' n' nn' _ (hR.snoc hy) F' N' hL'
theorem join_R {prog : Program} {w : World} {A : Around} {E : Value → Shared → Prop} {s : Shared} {D : Addr} {Q : Value → Shared → Prop} {k : Nat} {vs : List Value} {l : List Nat} (h : Rv k vs l) {y : Str} {t : Tok} (hy : y = S []) (hl : s.heap.IsList D vs.toArray)
    (hq : ∀ t' k, Q (.str (S l) t') { s with toks := k }) : wpAny (model prog w) A (call (.builtin "str.join") [.str y t, .ref D]) Q E s := by
  obtain ⟨ls, h1, h2, h3, h4⟩ := h
  exact join_S h2 hy hl h1 (by lia) h4 hq
theorem getD_mem {l : List Nat} {i : Nat} (h : i < l.length) : l.getD i 0 ∈ l := by
  rw [List.getD_eq_getElem?_getD, List.getElem?_eq_getElem h]
  exact List.getElem_mem h
theorem not_beq {b : Bool} : ((!b) == b) = false := by cases b <;> rfl
theorem run_facts {P : Nat → Bool} {b : Bool} {ck : List Nat} {of : Nat} (h : of ≤ ck.length) : (∀ j, j < (runL P b (ck.drop of)).length → P (ck.getD (of + j) 0) = b) ∧ (∀ j, (runL P b (ck.drop of)).length ≤ j ∧ j ≤ (runL P b (ck.drop of)).length → of + j < ck.length → P (ck.getD (of + j) 0) = !b) ∧
    ∀ j, (runL P b (ck.drop of)).length ≤ j ∧ j ≤ (runL P b (ck.drop of)).length → (ck.take (of + j)).drop of = runL P b (ck.drop of) := by
  refine ⟨fun j hj => ?_, fun j hj h2 => ?_, fun j hj => ?_⟩
  · rw [← getD_drop]; exact runL_yes hj
  · obtain rfl : j = (runL P b (ck.drop of)).length := by lia
    rw [← getD_drop]
    exact runL_no (by rw [List.length_drop]; lia)
  · obtain rfl : j = (runL P b (ck.drop of)).length := by lia
    rw [List.drop_take, show of + (runL P b (ck.drop of)).length - of = (runL P b (ck.drop of)).length by lia, ← runL_take]
theorem while_j {prog : Program} {w : World} {A : Around} {E : Value → Shared → Prop} {Q : Flow → Shared → Prop} {s : Shared} {env : Env} {h₀ : Heap} {L : Addr} {test : Expr} {body : List Stmt} {pos : Pos} {m₀ : PySem.Str → Option Value} {news : List (Addr × Obj)} (J : (PySem.Str → Option Value) → Nat → (PySem.Str → Option Value) → List (Addr × Obj) → Prop) (n₀ : Nat)
    (F : Fr h₀ L s.heap m₀) (N : News h₀ L s.heap news) (P : (PySem.Str → Option Value) → List (Addr × Obj) → Prop) (hJ : J m₀ n₀ m₀ news)
    (turn : ∀ n m₁ news₁ h₁ tk₁, J m₀ n m₁ news₁ → Fr h₀ L h₁ m₁ → News h₀ L h₁ news₁ →
      wpAny (model prog w) A (isTrue test env (eval test env)) (fun b s₂ =>
        if b = true then wpAny (model prog w) A (execs body env) (WhileStep2 h₀ L s (J m₀) (JoinP 0 h₀ L s P Q) n) E s₂ else JoinP 0 h₀ L s P Q .next s₂) E { s with heap := h₁, toks := tk₁ })
    (done : ∀ (h' : Heap) (tk' : Nat) (m' : PySem.Str → Option Value) (nw' : List (Addr × Obj)), P m' nw' → Fr h₀ L h' m' → News h₀ L h' nw' → Q .next { s with heap := h', toks := tk' })
    (hE : PassesOwn (model prog w) A env E := by first | assumption | passes_own) :
    wpAny (model prog w) A (exec (.While test body [] pos) env) Q E s := join_if (n := 0) F P (while_m J n₀ F N hJ turn hE) (fun h' tk' m' nw' _ => done h' tk' m' nw')
theorem Until.inv {R : List Nat} {P : Nat → Bool} {b : Bool} {k : Nat} {st st' : St} {l : List Nat} (h : Until R P b k st l st') : UOk R st ∧
    ((st.off + (runL P b (st.chunk.drop st.off)).length < st.chunk.length ∧ l = runL P b (st.chunk.drop st.off) ∧ st' = { st with off := st.off + (runL P b (st.chunk.drop st.off)).length }) ∨
     (st.off + (runL P b (st.chunk.drop st.off)).length = st.chunk.length ∧ st.data R 10240 = [] ∧ l = st.chunk.drop st.off ∧ st' = st.fetch R 10240) ∨
     (st.off + (runL P b (st.chunk.drop st.off)).length = st.chunk.length ∧ st.data R 10240 ≠ [] ∧ ∃ n l2, k = n + 1 ∧ l = st.chunk.drop st.off ++ l2 ∧ Until R P b n (st.fetch R 10240) l2 st')) := by
  cases h with
  | stop ok h => exact ⟨ok, .inl ⟨h, rfl, rfl⟩⟩
  | last ok h hd => exact ⟨ok, .inr (.inl ⟨h, hd, rfl, rfl⟩)⟩
  | more ok h hd hn => exact ⟨ok, .inr (.inr ⟨h, hd, _, _, rfl, rfl, hn⟩)⟩
inductive UJ (w : World) (R : List Nat) (P : Nat → Bool) (b : Bool) (st' : St) (l : List Nat) (rest : List (Addr × Obj)) (ad : List Nat) (x D : Nat) (m₀ : Str → Option Value) (k : Nat) (m' : Str → Option Value) (nx : List (Addr × Obj)) : Prop
  | mk (st1 : St) (l1 l2 : List Nat) (vs : List Value) (nn : Nat) (u : Option Value) (hU : Until R P b k st1 l2 st') (hl : l1 ++ l2 = l) (hRv : Rv (k + 1) vs l1) (hL : LedIs w R ((D, W.listOf vs.toArray nn) :: rest) ad x st1 nx) (hm : m' = fun z => if z = Str.ofString "end" then u else m₀ z)
section
variable {w : World} {mean : ExcName → Option Value} {mg mb : Str → Option Value} {R : List Nat} {rest : List (Addr × Obj)} {ad : List Nat} {x : Nat} {st st' : St} {news : List (Addr × Obj)}
set_option maxRecDepth 100000 in
set_option maxHeartbeats 16000000 in
theorem until_gen (hL : LedIs w R rest ad x st news) {cv : Value} {P : Nat → Bool} (hIn : InIs w cv P rest) {b : Bool} (vs : List Value) (hv : vs = [.ref x, cv, .bool b] ∨ (vs = [.ref x, cv] ∧ b = false)) {n : Nat} {l : List Nat} (hU : Until R P b n st l st') (hn : n ≤ 50) :
    Spec w mean mg mb 121 vs 60 500 news (fun v nw => (∃ t, v = .str (S l) t) ∧ LedIs w R rest ad x st' nw) := by
  refine Spec.of ?_
  intro dp un gd cn cs a ccd cl outer A₀ base h₀ L m s Q E B F X N T hk hd hu hret
  have hv0 : Hid _ := hv
  clear hv
  k_with_none
  k_with "tb" => (first | assumption | (apply le3; assumption; exact rfl) | lia | (simp only [List.length_append, List.length_cons, List.length_nil, List.length_take, List.length_drop, List.length_dropLast, crs_len, partOf_len] at *; lia) | ((with_reducible refine Nat.le_trans (crlf_len _) ?_); tb_start) | ((with_reducible refine Nat.le_trans (split_len _) ?_); tb_start) | ((with_reducible refine Nat.le_trans (norm_len _) ?_); tb_start))
  k_with "call builtin:str.count" => (refine count4 (by decide +kernel) (by first | assumption | lia) ?_)
  k_with "call builtin:str.rfind" => (refine rfind4 (by decide +kernel) (by first | assumption | lia) ?_)
  k_with "call builtin:str.replace" => ((try dsimp only at *); k_dflt (refine repl_crlf_S (by decide +kernel) (by decide +kernel) (by k_ne) (by k_ne) (by k_ne) (by tb_start) ?_); intro _ _ _)
  k_with "call builtin:str.replace" => ((try dsimp only at *); k_dflt (refine repl_cr_S (by decide +kernel) (by decide +kernel) (by k_ne) (by k_ne) (by k_ne) (by tb_start) ?_); intro _ _ _)
  k_with "call builtin:len" => ((with_reducible show wpAny _ _ (call (Value.builtin "len") [Value.str (S _) _]) _ _ _); refine len_S (by tb_start) ?_)
  k_with "call builtin:ord" => ((with_reducible show wpAny _ _ (call (Value.builtin "ord") [Value.str (S _) _]) _ _ _); refine ord_S ?_)
  k_with "binaryOp Add str str" => ((with_reducible show wpAny _ _ (binaryOp Operator.Add (Value.str (S _) _) (Value.str (S _) _)) _ _ _); refine add_S (by tb_start) ?_; intro _ _)
  k_with "inplaceOp Add str str" => ((with_reducible show wpAny _ _ (inplaceOp Operator.Add (Value.str (S _) _) (Value.str (S _) _)) _ _ _); refine iadd_S (by tb_start) ?_; intro _ _)
  k_with "truthy str" => ((with_reducible show wpAny _ _ (truthy (Value.str (S _) _)) _ _ _); refine truthy_S (by tb_start) ?_)
  k_with "compareOp Eq str str" => ((with_reducible show wpAny _ _ (compareOp CmpOp.Eq (Value.str (S _) _) (Value.str (S _) _)) _ _ _); refine eq_S ?_)
  k_with "compareOp NotEq str str" => ((with_reducible show wpAny _ _ (compareOp CmpOp.NotEq (Value.str (S _) _) (Value.str (S _) _)) _ _ _); refine ne_S ?_)
  k_with "subscriptTail Name Slice str ref" => (k_here; (with_reducible rename Fr _ _ _ _ => F'); (with_reducible rename News _ _ _ _ => N'); k_dflt (refine drop_S (s := ⟨_, _, _, _, _⟩) F' N' (by tb_start) ?_); intro _ _ _ _ _; (try k_sweep))
  k_with "subscriptTail Name Slice str ref" => (k_here; (with_reducible rename Fr _ _ _ _ => F'); (with_reducible rename News _ _ _ _ => N'); k_dflt (refine take_S (s := ⟨_, _, _, _, _⟩) F' N' (by tb_start) ?_); intro _ _ _ _ _; (try k_sweep))
  k_with "subscriptTail Name Slice str ref" => (k_here; (with_reducible rename Fr _ _ _ _ => F'); (with_reducible rename News _ _ _ _ => N'); k_dflt (refine mid_S (s := ⟨_, _, _, _, _⟩) F' N' (by tb_start) ?_); intro _ _ _ _ _; (try k_sweep))
  k_with "subscriptTail Name Slice str ref" => (k_here; (with_reducible rename Fr _ _ _ _ => F'); (with_reducible rename News _ _ _ _ => N'); k_dflt (refine part_S (s := ⟨_, _, _, _, _⟩) F' N' (by tb_start) ?_); intro _ _ _ _ _; (try k_sweep))
  k_with "subscriptTail Name Slice str ref" => (k_here; (with_reducible rename Fr _ _ _ _ => F'); (with_reducible rename News _ _ _ _ => N'); k_dflt (refine init_S (s := ⟨_, _, _, _, _⟩) F' N' (by tb_start) ?_); intro _ _ _ _ _; (try k_sweep))
  k_with "subscriptTail Name UnaryOp str int" => (k_here; (with_reducible show wpAny _ _ (subscriptTail _ _ (Value.str (S _) _) (Value.int _ _)) _ _ _); k_dflt (first | (refine last_S (by first | assumption | (intro hz; simp only [hz, List.length_nil] at *; lia)) (by tb_start) ?_) | (refine item_S (by first | assumption | lia | k_extra "my item") (by tb_start) ?_)))
  k_with "subscriptTail Name Name str int" => (k_here; (with_reducible show wpAny _ _ (subscriptTail _ _ (Value.str (S _) _) (Value.int _ _)) _ _ _); first | (with_reducible refine item_S (by k_dflt (first | assumption | lia | k_extra "my item")) (by k_dflt tb_start) ?_) | k_dflt (refine item_Si (by lia) (by first | lia | k_extra "my item") (by tb_start) ?_))
  k_with "subscriptTail Name Constant str int" => (k_here; (with_reducible show wpAny _ _ (subscriptTail _ _ (Value.str (S _) _) (Value.int _ _)) _ _ _); first | (with_reducible refine item_S (by k_dflt (first | assumption | lia | k_extra "my item")) (by k_dflt tb_start) ?_) | k_dflt (refine item_Si (by lia) (by first | lia | k_extra "my item") (by tb_start) ?_))
  k_with "subscriptTail Name BinOp str int" => (k_here; (with_reducible show wpAny _ _ (subscriptTail _ _ (Value.str (S _) _) (Value.int _ _)) _ _ _); first | (with_reducible refine item_S (by k_dflt (first | assumption | lia | k_extra "my item")) (by k_dflt tb_start) ?_) | k_dflt (refine item_Si (by lia) (by first | lia | k_extra "my item") (by tb_start) ?_))
  k_with "subscriptTail Attribute Name str int" => (k_here; (with_reducible show wpAny _ _ (subscriptTail _ _ (Value.str (S _) _) (Value.int _ _)) _ _ _); first | (with_reducible refine item_S (by k_dflt (first | assumption | lia | k_extra "my item")) (by k_dflt tb_start) ?_) | k_dflt (refine item_Si (by lia) (by first | lia | k_extra "my item") (by tb_start) ?_))
  k_with "subscriptTail Attribute Constant str int" => (k_here; (with_reducible show wpAny _ _ (subscriptTail _ _ (Value.str (S _) _) (Value.int _ _)) _ _ _); first | (with_reducible refine item_S (by k_dflt (first | assumption | lia | k_extra "my item")) (by k_dflt tb_start) ?_) | k_dflt (refine item_Si (by lia) (by first | lia | k_extra "my item") (by tb_start) ?_))
  k_with "subscriptTail Attribute Attribute str int" => (k_here; (with_reducible show wpAny _ _ (subscriptTail _ _ (Value.str (S _) _) (Value.int _ _)) _ _ _); first | (with_reducible refine item_S (by k_dflt (first | assumption | lia | k_extra "my item")) (by k_dflt tb_start) ?_) | k_dflt (refine item_Si (by lia) (by first | lia | k_extra "my item") (by tb_start) ?_))
  k_with "truthy ref" => (k_here; k_dflt (refine' truthy_meth ?N ?q ?_; (case N => k_asm); (case q => k_mem); k_whole))
  k_with "exec For Name Name cons nil" => (k_here; (with_reducible rename Fr _ _ _ _ => lF'); k_dflt (refine' For_invVF lF' ?k1 ?k2 ?_; (case k1 => exact rfl); (case k2 => exact rfl); k_whole))
  k_with "exec For Name Subscript cons nil" => (k_here; (with_reducible rename Fr _ _ _ _ => lF'); k_dflt (refine' For_invVF lF' ?k1 ?k2 ?_; (case k1 => exact rfl); (case k2 => exact rfl); k_whole))
  k_with "all" => (refine List.forall_mem_append.mpr ⟨?a, ?b⟩; (case a => k_all); (case b => k_all))
  k_with "rel" => (simp only [List.size_toArray]; rw [PySem.sizeLine_eq]; lia)
  k_with "call builtin:list.append" => (k_here; (with_reducible show wpAny _ _ (call (Value.builtin _) [Value.ref _, _]) _ _ _); k_dflt (refine' append_K ?k1 ?k2 ?k3 ?_ ?z; (case k1 => k_asm); (case k2 => k_asm); (case k3 => k_upd); (case z => tb_rel); k_whole); intro h' F' N'; (try simp only [List.push_toArray] at N'); (try k_sweep))
  k_with "enter" => (refine' code_def ?k1 ?k2 ?k3 ?k4 ?k5 ?kA ?kF ?kK ?k6 ?k7 ?k8 ?k9 ?kB ?_ ?c2 ?c3 ?c4 ?c5; (case kA => exact rfl); (case kF => exact rfl); (case kK => assumption); (case k1 => k_asm); (case k2 => k_asm); (case k3 => k_asm); (case k4 => k_asm); (case k5 => k_asm); (case k6 => k_is); (case k7 => k_is); (case k8 => ktr_room); (case k9 => first | exact BindsTo.of_eq rfl | exact binds_K (by k_in) rfl (by k_is) rfl rfl rfl); (case c5 => decide); (case kB => exact locs rfl); (case c2 => exact rfl); (case c3 => exact rfl); (case c4 => exact rfl); k_whole; intro g' L' h' FG' F' N' B' X' T'; (try dsimp only); (try k_lift B'); (try k_fold))
  k_with "JoinP" => (dsimp only [JoinP])
  k_with "subscriptTail" => (k_here; (with_reducible show wpAny _ _ (subscriptTail _ _ (Value.str (S _) _) (Value.int _ _)) _ _ _); first | (with_reducible refine item_S (by k_dflt (first | assumption | lia | k_extra "my item")) (by k_dflt tb_start) ?_) | k_dflt (refine item_Si (by lia) (by first | lia | k_extra "my item") (by tb_start) ?_))
  k_with "compareOp Eq str str" => ((with_reducible show wpAny _ _ (compareOp CmpOp.Eq (Value.str (S _) _) (Value.str (Str.ofString _) _)) _ _ _); k_dflt (first | refine eq_lit [13] (by decide +kernel) ?_ | refine eq_lit [10] (by decide +kernel) ?_))
  k_with "compareOp NotEq str str" => ((with_reducible show wpAny _ _ (compareOp CmpOp.NotEq (Value.str (S _) _) (Value.str (Str.ofString _) _)) _ _ _); k_dflt (first | refine ne_lit [13] (by decide +kernel) ?_ | refine ne_lit [10] (by decide +kernel) ?_))
  k_with "inplaceOp Add str str" => ((with_reducible show wpAny _ _ (inplaceOp Operator.Add (Value.str (S _) _) (Value.str (Str.ofString _) _)) _ _ _); k_dflt (refine iadd_lit [10] (by decide +kernel) (by tb_start) ?_); intro _ _)
  k_with "room" => (k_dflt ((first | apply room4 | apply room3 | apply room2 | apply room1 | apply room0 | apply roomz); assumption; exact rfl))
  k_with "getAttr ref" => ((with_reducible show wpAny _ _ (getAttr (Value.ref _) (Str.ofString "chunk") _) _ _ _); k_dflt (refine g_chunk (by assumption) (by k_asm) (by k_asm) ?N ?_; (case N => first | k_asm | exact News.tl (by k_asm) | exact News.tl (News.tl (by k_asm)) | exact News.tl (News.tl (News.tl (by k_asm))))); intro _)
  k_with "getAttr ref" => ((with_reducible show wpAny _ _ (getAttr (Value.ref _) (Str.ofString "chunkSize") _) _ _ _); k_dflt (refine g_size (by assumption) (by k_asm) (by k_asm) ?N ?_; (case N => first | k_asm | exact News.tl (by k_asm) | exact News.tl (News.tl (by k_asm)) | exact News.tl (News.tl (News.tl (by k_asm))))); intro _)
  k_with "getAttr ref" => ((with_reducible show wpAny _ _ (getAttr (Value.ref _) (Str.ofString "chunkOffset") _) _ _ _); k_dflt (refine g_off (by assumption) (by k_asm) (by k_asm) ?N ?_; (case N => first | k_asm | exact News.tl (by k_asm) | exact News.tl (News.tl (by k_asm)) | exact News.tl (News.tl (News.tl (by k_asm))))); intro _)
  k_with "getAttr ref" => ((with_reducible show wpAny _ _ (getAttr (Value.ref _) (Str.ofString "prevNumLines") _) _ _ _); k_dflt (refine g_pl (by assumption) (by k_asm) (by k_asm) ?N ?_; (case N => first | k_asm | exact News.tl (by k_asm) | exact News.tl (News.tl (by k_asm)) | exact News.tl (News.tl (News.tl (by k_asm))))); intro _)
  k_with "getAttr ref" => ((with_reducible show wpAny _ _ (getAttr (Value.ref _) (Str.ofString "prevNumCols") _) _ _ _); k_dflt (refine g_pc (by assumption) (by k_asm) (by k_asm) ?N ?_; (case N => first | k_asm | exact News.tl (by k_asm) | exact News.tl (News.tl (by k_asm)) | exact News.tl (News.tl (News.tl (by k_asm))))); intro _)
  k_with "getAttr ref" => ((with_reducible show wpAny _ _ (getAttr (Value.ref _) (Str.ofString "errors") _) _ _ _); k_dflt (refine g_errors (by assumption) (by k_asm) (by k_asm) ?N ?_; (case N => first | k_asm | exact News.tl (by k_asm) | exact News.tl (News.tl (by k_asm)) | exact News.tl (News.tl (News.tl (by k_asm))))); intro _ hE1)
  k_with "getAttr ref" => ((with_reducible show wpAny _ _ (getAttr (Value.ref _) (Str.ofString "dataStream") _) _ _ _); k_dflt (refine g_stream (by assumption) (by k_asm) (by k_asm) ?N ?_; (case N => first | k_asm | exact News.tl (by k_asm) | exact News.tl (News.tl (by k_asm)) | exact News.tl (News.tl (News.tl (by k_asm))))); intro _ hT1)
  k_with "getAttr ref" => ((with_reducible show wpAny _ _ (getAttr (Value.ref _) (Str.ofString "_bufferedCharacter") _) _ _ _); k_dflt (refine g_buf (by assumption) (by k_asm) (by k_asm) ?N ?_; (case N => first | k_asm | exact News.tl (by k_asm) | exact News.tl (News.tl (by k_asm)) | exact News.tl (News.tl (News.tl (by k_asm))))); intro _ hB1; (try cases hB1))
  k_with "getAttr ref" => ((with_reducible show wpAny _ _ (getAttr (Value.ref _) (Str.ofString "reportCharacterErrors") _) _ _ _); k_dflt (refine g_rep (by assumption) (by k_asm) (by k_asm) ?N ?_; (case N => first | k_asm | exact News.tl (by k_asm) | exact News.tl (News.tl (by k_asm)) | exact News.tl (News.tl (News.tl (by k_asm))))); intro _ hR1)
  k_with "getAttr ref" => ((with_reducible show wpAny _ _ (getAttr (Value.ref _) (Str.ofString "_defaultChunkSize") _) _ _ _); k_dflt (refine g_dflt (by assumption) (by k_asm) (by k_asm) ?N ?_; (case N => first | k_asm | exact News.tl (by k_asm) | exact News.tl (News.tl (by k_asm)) | exact News.tl (News.tl (News.tl (by k_asm))))); intro _)
  k_with "getAttr ref" => ((with_reducible show wpAny _ _ (getAttr (Value.ref _) (Str.ofString "text") _) _ _ _); k_dflt (refine g_text (by assumption) (by assumption) (by k_asm) (by k_asm) ?N ?_; (case N => first | k_asm | exact News.tl (by k_asm) | exact News.tl (News.tl (by k_asm)) | exact News.tl (News.tl (News.tl (by k_asm))))); intro _)
  k_with "getAttr ref" => ((with_reducible show wpAny _ _ (getAttr (Value.ref _) (Str.ofString "place") _) _ _ _); k_dflt (refine g_place (by assumption) (by assumption) (by k_asm) (by k_asm) ?N ?_; (case N => first | k_asm | exact News.tl (by k_asm) | exact News.tl (News.tl (by k_asm)) | exact News.tl (News.tl (News.tl (by k_asm))))); intro _)
  k_with "setAttr ref" => ((with_reducible show wpAny _ _ (setAttr (Value.ref _) (Str.ofString "chunk") _) _ _ _); (with_reducible rename LedR _ _ _ _ _ _ _ _ _ _ _ _ _ _ => hLo); k_dflt (refine s_chunk hLo (by k_asm) (by k_asm) ?N ?_; (case N => first | k_asm | exact News.tl (by k_asm) | exact News.tl (News.tl (by k_asm)) | exact News.tl (News.tl (News.tl (by k_asm))))); intro h' n' F' N' hL'; (try k_sweep); clear hLo)
  k_with "setAttr ref" => ((with_reducible show wpAny _ _ (setAttr (Value.ref _) (Str.ofString "chunk") (Value.str (Str.ofString "") _)) _ _ _); (with_reducible rename LedR _ _ _ _ _ _ _ _ _ _ _ _ _ _ => hLo); k_dflt (refine s_chunk0 hLo (by k_asm) (by k_asm) ?N ?_; (case N => first | k_asm | exact News.tl (by k_asm) | exact News.tl (News.tl (by k_asm)) | exact News.tl (News.tl (News.tl (by k_asm))))); intro h' n' F' N' hL'; (try k_sweep); clear hLo)
  k_with "setAttr ref" => ((with_reducible show wpAny _ _ (setAttr (Value.ref _) (Str.ofString "chunkSize") _) _ _ _); (with_reducible rename LedR _ _ _ _ _ _ _ _ _ _ _ _ _ _ => hLo); k_dflt (refine s_size hLo (by k_asm) (by k_asm) ?N ?_; (case N => first | k_asm | exact News.tl (by k_asm) | exact News.tl (News.tl (by k_asm)) | exact News.tl (News.tl (News.tl (by k_asm))))); intro h' n' F' N' hL'; (try k_sweep); clear hLo)
  k_with "setAttr ref" => ((with_reducible show wpAny _ _ (setAttr (Value.ref _) (Str.ofString "chunkOffset") _) _ _ _); (with_reducible rename LedR _ _ _ _ _ _ _ _ _ _ _ _ _ _ => hLo); k_dflt (refine s_off hLo (by k_asm) (by k_asm) ?N ?_; (case N => first | k_asm | exact News.tl (by k_asm) | exact News.tl (News.tl (by k_asm)) | exact News.tl (News.tl (News.tl (by k_asm))))); intro h' n' F' N' hL'; (try k_sweep); clear hLo)
  k_with "setAttr ref" => ((with_reducible show wpAny _ _ (setAttr (Value.ref _) (Str.ofString "prevNumLines") _) _ _ _); (with_reducible rename LedR _ _ _ _ _ _ _ _ _ _ _ _ _ _ => hLo); k_dflt (refine s_pl hLo (by k_asm) (by k_asm) ?N ?_; (case N => first | k_asm | exact News.tl (by k_asm) | exact News.tl (News.tl (by k_asm)) | exact News.tl (News.tl (News.tl (by k_asm))))); intro h' n' F' N' hL'; (try k_sweep); clear hLo)
  k_with "setAttr ref" => ((with_reducible show wpAny _ _ (setAttr (Value.ref _) (Str.ofString "prevNumCols") _) _ _ _); (with_reducible rename LedR _ _ _ _ _ _ _ _ _ _ _ _ _ _ => hLo); k_dflt (refine s_pc hLo (by k_asm) (by k_asm) ?N ?_; (case N => first | k_asm | exact News.tl (by k_asm) | exact News.tl (News.tl (by k_asm)) | exact News.tl (News.tl (News.tl (by k_asm))))); intro h' n' F' N' hL'; (try k_sweep); clear hLo)
  k_with "setAttr ref" => ((with_reducible show wpAny _ _ (setAttr (Value.ref _) (Str.ofString "_bufferedCharacter") _) _ _ _); (with_reducible rename LedR _ _ _ _ _ _ _ _ _ _ _ _ _ _ => hLo); k_dflt (refine s_buf (by first | exact BufIs.none | exact BufIs.some | assumption) hLo (by k_asm) (by k_asm) ?N ?_; (case N => first | k_asm | exact News.tl (by k_asm) | exact News.tl (News.tl (by k_asm)) | exact News.tl (News.tl (News.tl (by k_asm))))); intro h' n' F' N' hL'; (try k_sweep); clear hLo)
  k_with "setAttr ref" => ((with_reducible show wpAny _ _ (setAttr (Value.ref _) (Str.ofString "place") _) _ _ _); (with_reducible rename LedR _ _ _ _ _ _ _ _ _ _ _ _ _ _ => hLo); k_dflt (refine s_place hLo (by assumption) (by k_asm) (by k_asm) ?N ?_; (case N => first | k_asm | exact News.tl (by k_asm) | exact News.tl (News.tl (by k_asm)) | exact News.tl (News.tl (News.tl (by k_asm))))); intro h' n' F' N' hL'; (try k_sweep); clear hLo)
  k_with "getMethod ref" => ((with_reducible show wpAny _ _ (getMethod (Value.ref _) (Str.ofString "_position") _) _ _ _); k_dflt (refine m_pos_ (by assumption) (by k_asm) (by k_asm) ?N ?_; (case N => first | k_asm | exact News.tl (by k_asm) | exact News.tl (News.tl (by k_asm)) | exact News.tl (News.tl (News.tl (by k_asm))))))
  k_with "getMethod ref" => ((with_reducible show wpAny _ _ (getMethod (Value.ref _) (Str.ofString "position") _) _ _ _); k_dflt (refine m_pos (by assumption) (by k_asm) (by k_asm) ?N ?_; (case N => first | k_asm | exact News.tl (by k_asm) | exact News.tl (News.tl (by k_asm)) | exact News.tl (News.tl (News.tl (by k_asm))))))
  k_with "getMethod ref" => ((with_reducible show wpAny _ _ (getMethod (Value.ref _) (Str.ofString "char") _) _ _ _); k_dflt (refine m_char (by assumption) (by k_asm) (by k_asm) ?N ?_; (case N => first | k_asm | exact News.tl (by k_asm) | exact News.tl (News.tl (by k_asm)) | exact News.tl (News.tl (News.tl (by k_asm))))))
  k_with "getMethod ref" => ((with_reducible show wpAny _ _ (getMethod (Value.ref _) (Str.ofString "readChunk") _) _ _ _); k_dflt (refine m_chunk (by assumption) (by k_asm) (by k_asm) ?N ?_; (case N => first | k_asm | exact News.tl (by k_asm) | exact News.tl (News.tl (by k_asm)) | exact News.tl (News.tl (News.tl (by k_asm))))))
  k_with "getMethod ref" => ((with_reducible show wpAny _ _ (getMethod (Value.ref _) (Str.ofString "unget") _) _ _ _); k_dflt (refine m_unget (by assumption) (by k_asm) (by k_asm) ?N ?_; (case N => first | k_asm | exact News.tl (by k_asm) | exact News.tl (News.tl (by k_asm)) | exact News.tl (News.tl (News.tl (by k_asm))))))
  k_with "getMethod ref" => ((with_reducible show wpAny _ _ (getMethod (Value.ref _) (Str.ofString "charsUntil") _) _ _ _); k_dflt (refine m_until (by assumption) (by k_asm) (by k_asm) ?N ?_; (case N => first | k_asm | exact News.tl (by k_asm) | exact News.tl (News.tl (by k_asm)) | exact News.tl (News.tl (News.tl (by k_asm))))))
  k_with "getMethod ref" => ((with_reducible show wpAny _ _ (getMethod (Value.ref _) (Str.ofString "read") _) _ _ _); k_dflt (refine m_read (by assumption) (by assumption) (by k_asm) (by k_asm) ?N ?_; (case N => first | k_asm | exact News.tl (by k_asm) | exact News.tl (News.tl (by k_asm)) | exact News.tl (News.tl (News.tl (by k_asm))))))
  k_with "getMethod ref" => ((with_reducible show wpAny _ _ (getMethod (Value.ref _) (Str.ofString "reportCharacterErrors") _) _ _ _); k_dflt (refine m_rep (by assumption) (by k_asm) (by k_asm) ?N ?_; (case N => first | k_asm | exact News.tl (by k_asm) | exact News.tl (News.tl (by k_asm)) | exact News.tl (News.tl (News.tl (by k_asm))))); intro _ hR1)
  k_with "getMethod ref" => ((with_reducible show wpAny _ _ (getMethod (Value.ref _) (Str.ofString "append") _) _ _ _); k_dflt (refine m_append (by assumption) (by assumption) (by k_asm) (by k_asm) ?N ?_; (case N => first | k_asm | exact News.tl (by k_asm) | exact News.tl (News.tl (by k_asm)) | exact News.tl (News.tl (News.tl (by k_asm))))))
  k_with "call builtin:list.append" => ((with_reducible rename LedR _ _ _ _ _ _ _ _ _ _ _ _ _ _ => hLo); k_dflt (refine app_err hLo (by assumption) (by k_asm) (by k_asm) ?N (by lia) ?_; (case N => first | k_asm | exact News.tl (by k_asm) | exact News.tl (News.tl (by k_asm)) | exact News.tl (News.tl (News.tl (by k_asm))))); intro h' n' F' N' hL'; (try k_sweep); clear hLo)
  k_with "exec While" => ((with_reducible show wpAny _ _ (exec (Stmt.While (Expr.Constant _ _ _) _ _ _) _) _ _ _); (with_reducible rename Fr _ _ _ _ => F9); (with_reducible rename News _ _ _ _ => N9); (obtain ⟨D9, hD9, n2, hL2, N2, hD0⟩ := LedR.push3 (o := W.listOf [].toArray 0) hL (by assumption) N9); subst hD9; (clear N9 hL); k_dflt ((refine' while_m (UJ w R P b st' l rest ad x D9) n F9 N2 ?wj ?wt); (case' wj => exact (mix1 _ _).elim fun u hu => ⟨st, [], l, [], 0, u, hU, rfl, Rv.nil (by lia), hL2, hu⟩); (case' wt => clear F9 N2 hL2 hU; intro k m₁ nx h₁ tk₁ hJ F' N'; (obtain ⟨st1, l1, l2, vs9, nn, u, hU, hl, hRv, hL', hm'⟩ := hJ); subst hm'; (obtain ⟨ok, hU⟩ := hU.inv); (obtain ⟨o1, o2, o3, o4, o5, o6⟩ := ok); ((have hY := run_facts (P := P) (b := b) (ck := st1.chunk) (of := st1.off) (by lia)); (obtain ⟨run, hrun⟩ : ∃ run, runL P b (List.drop st1.off st1.chunk) = run := ⟨_, rfl⟩); (rw [hrun] at hU hY); (have hs0 : st1.off + run.length ≤ st1.chunk.length := by rcases hU with ⟨h, _⟩ | ⟨h, _⟩ | ⟨h, _⟩ <;> lia); (obtain ⟨hyes, hno, htk⟩ := hY); (have hc9 : ∀ i, i < st1.chunk.length → st1.chunk.getD i 0 < 1114112 := fun i hi => o6 _ (getD_mem hi)); (obtain ⟨ck, of, er, pl, pc, bf, pla⟩ := st1); (unfold LedIs at hL'); (dsimp only at *); (try k_fold)))))
  k_with "exec While" => ((with_reducible show wpAny _ _ (exec (Stmt.While (Expr.BoolOp _ _ _) _ _ _) _) _ _ _); (with_reducible rename Fr _ _ _ _ => F9); (with_reducible rename News _ _ _ _ => N9); (with_reducible rename LedR _ _ _ _ _ _ _ _ _ _ _ _ _ _ => hLo); k_dflt ((refine while_j (fun m₀ n m' nx => ∃ j : Nat, j + n = run.length ∧ (∃ t : Tok, m' = fun z => if z = Str.ofString "end" then some (.int ((of + j : Nat) : Int) t) else m₀ z) ∧ LedR w R ((D9, W.listOf vs9.toArray nn) :: rest) ad x ck (ck.length : Int) (of : Int) er (pl : Int) (pc : Int) bf (pla : Int) nx) run.length F9 N9 (fun m' nw => (∃ t : Tok, m' = fun z => if z = Str.ofString "end" then some (.int ((of + run.length : Nat) : Int) t) else if z = Str.ofString "rv" then some (Value.ref D9) else List.lookup z [(Str.ofString "opposite", Value.bool b), (Str.ofString "characters", cv), (Str.ofString "self", Value.ref x)]) ∧ LedR w R ((D9, W.listOf vs9.toArray nn) :: rest) ad x ck (ck.length : Int) (of : Int) er (pl : Int) (pc : Int) bf (pla : Int) nw) ⟨0, by lia, set1 ⟨_, rfl⟩ (fun z hz => rfl), hLo⟩ ?_ ?_) <;> (clear F9 N9 hLo; first | (intro n9 m₁ nx h₁ tk₁ hJ F' N'; (obtain ⟨j, hjn, ⟨tj, hm'⟩, hL'⟩ := hJ); subst hm'; (rcases Nat.lt_or_ge j run.length with hj | hj) <;> (dsimp only at *; (try k_fold))) | (intro h9 tk9 m9 nw9 hP9 F' N'; (obtain ⟨⟨t9, hm'⟩, hL'⟩ := hP9); subst hm'; clear hyes hno; (obtain ⟨e, he⟩ : ∃ e, of + run.length = e := ⟨_, rfl⟩); (rw [he] at F'); (have htk := htk run.length (by lia)); (rw [he] at htk); (rcases hU with ⟨hs, hl2, hst⟩ | hU2) <;> ((first | (replace hst := hst.symm; subst hst; replace hl2 := hl2.symm; subst hl2) | (obtain ⟨hs, hU2⟩ := and_or_left.mpr hU2)); (rcases Nat.eq_zero_or_pos run.length with h0 | h0) <;> (dsimp only at *; (try k_fold)))))))
  k_with "JoinN" => (k_dflt ((obtain rfl : j = run.length := by lia); refine join_end (by assumption) (by assumption) (Nat.zero_le _) ⟨set1 ⟨_, rfl⟩ (fun z hz => (by repeat (first | with_reducible rfl | refine (if_neg (by assumption)).trans ?_ | rfl))), by assumption⟩))
  k_with "ite" => ((first | (with_reducible show if ((_ : Int) == _) = true then _ else _) | (with_reducible show if ((_ : Int) != _) = true then _ else _)); k_dflt (first | refine ite_pos (by simp only [beq_iff_eq, bne_iff_ne, ne_eq]; lia) ?_ | refine ite_neg (by simp only [beq_iff_eq, bne_iff_ne, ne_eq]; lia) ?_))
  k_with "compareOp In str" => ((with_reducible show wpAny _ _ (compareOp CmpOp.In (Value.str (S [_]) _) _) _ _ _); (with_reducible rename News _ _ _ _ => N9); (with_reducible rename LedR _ _ _ _ _ _ _ _ _ _ _ _ _ _ => hLo); k_dflt (refine hIn _ _ _ _ _ _ _ _ _ N9 (fun p hp => LedR.mem_rest hLo (.tail _ hp)) (hc9 _ (by lia)) (by ke_room) ?_); intro tk9 htk9; clear htk9; k_dflt (first | rw [hyes j (by lia)] | rw [hno j (by lia) (by lia)]))
  k_with "compareOp Eq bool bool" => (k_dflt (refine eq_bool ?_); first | rw [beq_self_eq_true] | rw [not_beq])
  k_with "WhileStep2" => ((with_reducible show WhileStep2 _ _ _ _ _ _ Flow.brk _); dsimp only [WhileStep2])
  k_with "WhileStep2" => ((with_reducible show WhileStep2 _ _ _ _ _ _ Flow.next _); k_dflt (refine wstep_end (n' := k2) (by assumption) (by assumption) (by lia) ⟨_, _, l3, _, _, _, hU3, by rw [List.append_assoc]; exact hl, hRv, by assumption, rfl⟩))
  k_with "WhileStep2" => ((with_reducible show WhileStep2 _ _ _ _ _ _ Flow.next _); k_dflt (refine wstep_end (n' := n9 - 1) (by assumption) (by first | assumption | exact News.tl (by assumption)) (by lia) ⟨j + 1, by lia, set1 ⟨_, int_eq (show ((of + j : Nat) : Int) + 1 = ((of + (j + 1) : Nat) : Int) by lia)⟩ (fun z hz => (by repeat (first | with_reducible rfl | refine (if_neg (by assumption)).trans ?_ | rfl))), by assumption⟩))
  k_with "getMethod ref" => ((with_reducible show wpAny _ _ (getMethod (Value.ref _) (Str.ofString "append") _) _ _ _); k_dflt (refine m_rv (by assumption) (by k_asm) (by k_asm) (by k_asm) ?_))
  k_with "call builtin:list.append" => ((with_reducible show wpAny _ _ (call (Value.builtin _) [Value.ref _, Value.str (S _) _]) _ _ _); (with_reducible rename LedR _ _ _ _ _ _ _ _ _ _ _ _ _ _ => hLo); k_dflt (refine app_rv2 hLo hD0 hRv (by first | (rw [htk]; lia) | (rw [List.length_drop]; lia)) (by k_asm) (by k_asm) ?_); (clear hLo hRv); intro h' n' nn2 vs2 hRv F' N' hL'; (try k_sweep); (try rw [htk] at hRv))
  k_with "call ref" => ((with_reducible show wpAny _ _ (call (Value.ref 106) _) _ _ _); (with_reducible rename LedR _ _ _ _ _ _ _ _ _ _ _ _ _ _ => hLo); k_dflt ((refine' Spec.use (chunk0_spec (st := ⟨ck, of, er, pl, pc, bf, pla⟩) hLo o1 o2 (by dsimp only; lia) o4) ?B ?F ?X ?N ?T ?hk ?hd ?hu ?_); (case B => k_asm); (case F => k_asm); (case X => k_asm); (case T => k_asm); (case hk => first | exact rfl | assumption); (case N => first | k_asm | exact News.tl (by k_asm) | exact News.tl (News.tl (by k_asm)) | exact News.tl (News.tl (News.tl (by k_asm)))); (case hd => ktr_room); (case hu => ktr_units); (intro r' n' h' tk' hR' hle' F' N'); (clear hLo); (rcases hU2 with ⟨hdd, hl2, hst⟩ | ⟨hdd, k2, l3, hk2, hl2, hU3⟩) <;> ((try (replace hst := hst.symm; subst hst)); (replace hl2 := hl2.symm; subst hl2); (try subst hk2); (first | rw [decide_eq_true hdd] at hR' | rw [decide_eq_false (fun h => h hdd)] at hR'); (obtain ⟨hr', hL'⟩ := hR'); subst hr'; (try dsimp only); (try k_fold))))
  k_with "call builtin:str.join" => ((with_reducible rename LedR _ _ _ _ _ _ _ _ _ _ _ _ _ _ => hLo); k_dflt (refine join_R hRv of_empty (News.isList (by k_asm) (LedR.mem_rest hLo (.head _))) ?_); intro t9 k9)
  k_dflt (refine' code_def (binds := [(Str.ofString "self", Value.ref x), (Str.ofString "characters", cv), (Str.ofString "opposite", .bool b)]) ?k1 ?k2 ?k3 ?k4 ?k5 ?kA ?kF ?kK ?k6 ?k7 ?k8 ?k9 ?kB ?_ ?c2 ?c3 ?c4 ?c5; (case kA => exact rfl); (case kF => exact rfl); (case kK => assumption); (case k1 => k_asm); (case k2 => k_asm); (case k3 => k_asm); (case k4 => k_asm); (case k5 => k_asm); (case k6 => k_is); (case k7 => k_is); (case k8 => ktr_room); (case k9 => unfold Hid at hv0; rcases hv0 with h1 | ⟨h1, h2⟩ <;> subst h1 <;> (try subst h2) <;> first | exact BindsTo.of_eq rfl | exact binds_K (by k_in) rfl (by k_is) rfl rfl rfl); (case c5 => decide); (case kB => exact locs rfl); (case c2 => exact rfl); (case c3 => exact rfl); (case c4 => exact rfl); k_whole; intro g' L' h' FG' F' N' B' X' T'; (try dsimp only); (try k_lift B'); (try k_fold))
  (rename Fr _ _ _ _ => F1)
  (with_unfolding_all change Fr _ _ _ (fun y => List.lookup y [(Str.ofString "opposite", Value.bool b), (Str.ofString "characters", cv), (Str.ofString "self", Value.ref x)]) at F1)
  k_steps
  all_goals (
    obtain ⟨nf, hf, hsub⟩ := LedR.pop (by assumption)
    refine hret _ _ _ _ ⟨⟨_, congrArg (fun z => Value.str (S z) _) ?_⟩, ?_⟩ (by assumption) (News.sub (by assumption) hsub)
    · first
      | exact hl
      | (have hz := List.eq_nil_of_length_eq_zero h0; subst hz; rw [← hl, List.append_nil])
    · refine LedR.eq hf rfl rfl ?_ rfl rfl rfl rfl rfl
      first | rfl | (dsimp only; lia))
end
section
variable {w : World} {mean : ExcName → Option Value} {mg mb : Str → Option Value} {f : Addr} {vs : List Value} {dd uu : Nat} {news : List (Addr × Obj)} {dp un : Nat} {gd : Option (List Code)} {cn : Str} {cs : Scope} {a : Addr} {ccd : Value} {cl : List (Str × Addr)} {outer : List Env} {A₀ : Around} {base h₀ : Heap} {L : Addr} {m : Str → Option Value} {s : Shared} {Q E : Value → Shared → Prop}
theorem Spec.useFet {x y z : Nat}
    (H : Spec w mean mg mb f vs dd uu news (fun v nw => ∃ (D : Nat) (x' y' z' : Int) (t1 t2 t3 : Tok), v = .ref D ∧ (∀ q ∈ news, q.1 < D) ∧ nw = (D, tup [.int x' t1, .int y' t2, .int z' t3]) :: news ∧ x' = x ∧ y' = y ∧ z' = z)) (B : Below A₀ base outer h₀) (F : Fr h₀ L s.heap m) (X : (hd04.heap_39 w.params).In h₀) (N : News h₀ L s.heap news) (T : Top hd04.view_39 loose mean mg mb h₀) (hk : cs.kind = .function) (hd : dp + dd < recursionLimit) (hu : un + uu < cLine)
    (k : ∀ D t1 t2 t3 h' tk', (∀ q ∈ news, q.1 < D) → s.toks ≤ tk' → Fr h₀ L h' m → News h₀ L h' ((D, tup [.int (x : Nat) t1, .int (y : Nat) t2, .int (z : Nat) t3]) :: news) → Q (.ref D) { s with heap := h', toks := tk' }) :
    wpAny (model PySem.Challenge.pw_te0074_04 w) (ktrTop dp un gd cn cs L a ccd cl outer) (call (.ref f) vs) Q E s :=
  Spec.use H B F X N T hk hd hu fun _ _ h' tk' hR hle F' N' => by
    obtain ⟨D, _, _, _, t1, t2, t3, rfl, hlt, rfl, rfl, rfl, rfl⟩ := hR
    exact k D t1 t2 t3 h' tk' hlt hle F' N'
theorem Spec.useStops {P : List (Addr × Obj) → Nat → Value → Prop} {n : Nat}
    (H : Spec w mean mg mb f vs dd uu news (fun v nw => ∃ (D : Nat) (vs : List Value), v = .ref D ∧ (D, W.listOf vs.toArray 0) ∈ nw ∧ (∀ p ∈ news, p ∈ nw) ∧ vs.length = n ∧ ∀ i v, vs[i]? = some v → P nw i v)) (B : Below A₀ base outer h₀) (F : Fr h₀ L s.heap m) (X : (hd04.heap_39 w.params).In h₀) (N : News h₀ L s.heap news) (T : Top hd04.view_39 loose mean mg mb h₀) (hk : cs.kind = .function) (hd : dp + dd < recursionLimit) (hu : un + uu < cLine)
    (k : ∀ (D : Nat) (vs : List Value) (n' : List (Addr × Obj)) (h' : Heap) (tk' : Nat), (D, W.listOf vs.toArray 0) ∈ n' → (∀ p ∈ news, p ∈ n') → vs.length = n → (∀ i v, vs[i]? = some v → P n' i v) → s.toks ≤ tk' → Fr h₀ L h' m → News h₀ L h' n' → Q (.ref D) { s with heap := h', toks := tk' }) :
    wpAny (model PySem.Challenge.pw_te0074_04 w) (ktrTop dp un gd cn cs L a ccd cl outer) (call (.ref f) vs) Q E s :=
  Spec.use H B F X N T hk hd hu fun _ _ h' tk' hR hle F' N' => by
    obtain ⟨D, vs, rfl, h1, h2, h3, h4⟩ := hR
    exact k D vs _ h' tk' h1 h2 h3 h4 hle F' N'
theorem Spec.useList {l : List Str}
    (H : Spec w mean mg mb f vs dd uu news (fun v nw => ∃ (D : Nat) (vs : List Value) (nn : Nat), v = .ref D ∧ (∀ q ∈ news, q.1 < D) ∧ nw = (D, W.listOf vs.toArray nn) :: news ∧ StrsAre vs l)) (B : Below A₀ base outer h₀) (F : Fr h₀ L s.heap m) (X : (hd04.heap_39 w.params).In h₀) (N : News h₀ L s.heap news) (T : Top hd04.view_39 loose mean mg mb h₀) (hk : cs.kind = .function) (hd : dp + dd < recursionLimit) (hu : un + uu < cLine)
    (k : ∀ (D : Nat) (vs : List Value) (nn : Nat) (h' : Heap) (tk' : Nat), (∀ q ∈ news, q.1 < D) → StrsAre vs l → s.toks ≤ tk' → Fr h₀ L h' m → News h₀ L h' ((D, W.listOf vs.toArray nn) :: news) → Q (.ref D) { s with heap := h', toks := tk' }) :
    wpAny (model PySem.Challenge.pw_te0074_04 w) (ktrTop dp un gd cn cs L a ccd cl outer) (call (.ref f) vs) Q E s :=
  Spec.use H B F X N T hk hd hu fun _ _ h' tk' hR hle F' N' => by
    obtain ⟨D, vs, nn, rfl, h1, rfl, h2⟩ := hR
    exact k D vs nn h' tk' h1 h2 hle F' N'
end
theorem led0_endA {h₀ h' : Heap} {L : Addr} {m' : Str → Option Value} {news own : List (Addr × Obj)} {adr : List Addr} {J : (Str → Option Value) → List (Addr × Obj) → Prop} {s₁ : Shared} {tk : Nat} (F : Fr h₀ L h' m') (N : News h₀ L h' (news ++ own)) (ha : news.map (·.1) = adr) (hj : J m' news) :
    InvEndN h₀ L J own adr s₁ { s₁ with heap := h', toks := tk } :=
  InvEndN.intro F N hj ha (fun p hp => List.mem_append.mpr (.inl hp)) (fun p hp => List.mem_append.mpr (.inr hp))
theorem tup_of {h₀ h : Heap} {L : Addr} {D : Nat} {ts : List Value} {news : List (Addr × Obj)} (N : News h₀ L h news) (hm : (D, tup ts) ∈ news) : IsTup h D ts.toArray := ⟨_, (N _ hm).1, rfl, _, rfl⟩
theorem name_new {h₀ h : Heap} {L : Addr} {D : Nat} {o : Obj} {news : List (Addr × Obj)} (N : News h₀ L h ((D, o) :: news)) : ∃ D' : Nat, D' = D ∧ News h₀ L h ((D', o) :: news) := ⟨D, rfl, N⟩
section
variable {w : World} {mean : ExcName → Option Value} {mg mb : Str → Option Value} {news : List (Addr × Obj)}
/-- a tuple of signs in the ledger -/
def StopIs (news nw : List (Addr × Obj)) (v : Value) (l : List Nat) : Prop := ∃ (T : Nat) (ts : List Value), v = .ref T ∧ (T, tup ts) ∈ nw ∧ (∀ q ∈ news, q.1 < T) ∧ StrsAre ts (sg l)
set_option maxRecDepth 100000 in
set_option maxHeartbeats 8000000 in
theorem stops_spec (news : List (Addr × Obj)) :
    Spec w mean mg mb 143 [] 5 40 news (fun v nw => ∃ (D : Nat) (vs : List Value), v = .ref D ∧ (D, W.listOf vs.toArray 0) ∈ nw ∧ (∀ p ∈ news, p ∈ nw) ∧ vs.length = 6 ∧ ∀ i v, vs[i]? = some v → StopIs news nw v (SS4.getD i [])) := by
  refine Spec.of ?_
  intro dp un gd cn cs a ccd cl outer A₀ base h₀ L m s Q E B F X N T hk hd hu hret
  k_with_none
  k_with "tb" => (first | assumption | (apply le3; assumption; exact rfl) | lia | (simp only [List.length_append, List.length_cons, List.length_nil, List.length_take, List.length_drop, List.length_dropLast, crs_len, partOf_len] at *; lia) | ((with_reducible refine Nat.le_trans (crlf_len _) ?_); tb_start) | ((with_reducible refine Nat.le_trans (split_len _) ?_); tb_start) | ((with_reducible refine Nat.le_trans (norm_len _) ?_); tb_start))
  k_with "call builtin:str.count" => (refine count4 (by decide +kernel) (by first | assumption | lia) ?_)
  k_with "call builtin:str.rfind" => (refine rfind4 (by decide +kernel) (by first | assumption | lia) ?_)
  k_with "call builtin:str.replace" => ((try dsimp only at *); k_dflt (refine repl_crlf_S (by decide +kernel) (by decide +kernel) (by k_ne) (by k_ne) (by k_ne) (by tb_start) ?_); intro _ _ _)
  k_with "call builtin:str.replace" => ((try dsimp only at *); k_dflt (refine repl_cr_S (by decide +kernel) (by decide +kernel) (by k_ne) (by k_ne) (by k_ne) (by tb_start) ?_); intro _ _ _)
  k_with "call builtin:len" => ((with_reducible show wpAny _ _ (call (Value.builtin "len") [Value.str (S _) _]) _ _ _); refine len_S (by tb_start) ?_)
  k_with "call builtin:ord" => ((with_reducible show wpAny _ _ (call (Value.builtin "ord") [Value.str (S _) _]) _ _ _); refine ord_S ?_)
  k_with "binaryOp Add str str" => ((with_reducible show wpAny _ _ (binaryOp Operator.Add (Value.str (S _) _) (Value.str (S _) _)) _ _ _); refine add_S (by tb_start) ?_; intro _ _)
  k_with "inplaceOp Add str str" => ((with_reducible show wpAny _ _ (inplaceOp Operator.Add (Value.str (S _) _) (Value.str (S _) _)) _ _ _); refine iadd_S (by tb_start) ?_; intro _ _)
  k_with "truthy str" => ((with_reducible show wpAny _ _ (truthy (Value.str (S _) _)) _ _ _); refine truthy_S (by tb_start) ?_)
  k_with "compareOp Eq str str" => ((with_reducible show wpAny _ _ (compareOp CmpOp.Eq (Value.str (S _) _) (Value.str (S _) _)) _ _ _); refine eq_S ?_)
  k_with "compareOp NotEq str str" => ((with_reducible show wpAny _ _ (compareOp CmpOp.NotEq (Value.str (S _) _) (Value.str (S _) _)) _ _ _); refine ne_S ?_)
  k_with "subscriptTail Name Slice str ref" => (k_here; (with_reducible rename Fr _ _ _ _ => F'); (with_reducible rename News _ _ _ _ => N'); k_dflt (refine drop_S (s := ⟨_, _, _, _, _⟩) F' N' (by tb_start) ?_); intro _ _ _ _ _; (try k_sweep))
  k_with "subscriptTail Name Slice str ref" => (k_here; (with_reducible rename Fr _ _ _ _ => F'); (with_reducible rename News _ _ _ _ => N'); k_dflt (refine take_S (s := ⟨_, _, _, _, _⟩) F' N' (by tb_start) ?_); intro _ _ _ _ _; (try k_sweep))
  k_with "subscriptTail Name Slice str ref" => (k_here; (with_reducible rename Fr _ _ _ _ => F'); (with_reducible rename News _ _ _ _ => N'); k_dflt (refine mid_S (s := ⟨_, _, _, _, _⟩) F' N' (by tb_start) ?_); intro _ _ _ _ _; (try k_sweep))
  k_with "subscriptTail Name Slice str ref" => (k_here; (with_reducible rename Fr _ _ _ _ => F'); (with_reducible rename News _ _ _ _ => N'); k_dflt (refine part_S (s := ⟨_, _, _, _, _⟩) F' N' (by tb_start) ?_); intro _ _ _ _ _; (try k_sweep))
  k_with "subscriptTail Name Slice str ref" => (k_here; (with_reducible rename Fr _ _ _ _ => F'); (with_reducible rename News _ _ _ _ => N'); k_dflt (refine init_S (s := ⟨_, _, _, _, _⟩) F' N' (by tb_start) ?_); intro _ _ _ _ _; (try k_sweep))
  k_with "subscriptTail Name UnaryOp str int" => (k_here; (with_reducible show wpAny _ _ (subscriptTail _ _ (Value.str (S _) _) (Value.int _ _)) _ _ _); k_dflt (first | (refine last_S (by first | assumption | (intro hz; simp only [hz, List.length_nil] at *; lia)) (by tb_start) ?_) | (refine item_S (by first | assumption | lia | k_extra "my item") (by tb_start) ?_)))
  k_with "subscriptTail Name Name str int" => (k_here; (with_reducible show wpAny _ _ (subscriptTail _ _ (Value.str (S _) _) (Value.int _ _)) _ _ _); first | (with_reducible refine item_S (by k_dflt (first | assumption | lia | k_extra "my item")) (by k_dflt tb_start) ?_) | k_dflt (refine item_Si (by lia) (by first | lia | k_extra "my item") (by tb_start) ?_))
  k_with "subscriptTail Name Constant str int" => (k_here; (with_reducible show wpAny _ _ (subscriptTail _ _ (Value.str (S _) _) (Value.int _ _)) _ _ _); first | (with_reducible refine item_S (by k_dflt (first | assumption | lia | k_extra "my item")) (by k_dflt tb_start) ?_) | k_dflt (refine item_Si (by lia) (by first | lia | k_extra "my item") (by tb_start) ?_))
  k_with "subscriptTail Name BinOp str int" => (k_here; (with_reducible show wpAny _ _ (subscriptTail _ _ (Value.str (S _) _) (Value.int _ _)) _ _ _); first | (with_reducible refine item_S (by k_dflt (first | assumption | lia | k_extra "my item")) (by k_dflt tb_start) ?_) | k_dflt (refine item_Si (by lia) (by first | lia | k_extra "my item") (by tb_start) ?_))
  k_with "subscriptTail Attribute Name str int" => (k_here; (with_reducible show wpAny _ _ (subscriptTail _ _ (Value.str (S _) _) (Value.int _ _)) _ _ _); first | (with_reducible refine item_S (by k_dflt (first | assumption | lia | k_extra "my item")) (by k_dflt tb_start) ?_) | k_dflt (refine item_Si (by lia) (by first | lia | k_extra "my item") (by tb_start) ?_))
  k_with "subscriptTail Attribute Constant str int" => (k_here; (with_reducible show wpAny _ _ (subscriptTail _ _ (Value.str (S _) _) (Value.int _ _)) _ _ _); first | (with_reducible refine item_S (by k_dflt (first | assumption | lia | k_extra "my item")) (by k_dflt tb_start) ?_) | k_dflt (refine item_Si (by lia) (by first | lia | k_extra "my item") (by tb_start) ?_))
  k_with "subscriptTail Attribute Attribute str int" => (k_here; (with_reducible show wpAny _ _ (subscriptTail _ _ (Value.str (S _) _) (Value.int _ _)) _ _ _); first | (with_reducible refine item_S (by k_dflt (first | assumption | lia | k_extra "my item")) (by k_dflt tb_start) ?_) | k_dflt (refine item_Si (by lia) (by first | lia | k_extra "my item") (by tb_start) ?_))
  k_with "truthy ref" => (k_here; k_dflt (refine' truthy_meth ?N ?q ?_; (case N => k_asm); (case q => k_mem); k_whole))
  k_with "exec For Name Name cons nil" => (k_here; (with_reducible rename Fr _ _ _ _ => lF'); k_dflt (refine' For_invVF lF' ?k1 ?k2 ?_; (case k1 => exact rfl); (case k2 => exact rfl); k_whole))
  k_with "exec For Name Subscript cons nil" => (k_here; (with_reducible rename Fr _ _ _ _ => lF'); k_dflt (refine' For_invVF lF' ?k1 ?k2 ?_; (case k1 => exact rfl); (case k2 => exact rfl); k_whole))
  k_with "all" => (refine List.forall_mem_append.mpr ⟨?a, ?b⟩; (case a => k_all); (case b => k_all))
  k_with "rel" => (simp only [List.size_toArray]; rw [PySem.sizeLine_eq]; lia)
  k_with "call builtin:list.append" => (k_here; (with_reducible show wpAny _ _ (call (Value.builtin _) [Value.ref _, _]) _ _ _); k_dflt (refine' append_K ?k1 ?k2 ?k3 ?_ ?z; (case k1 => k_asm); (case k2 => k_asm); (case k3 => k_upd); (case z => tb_rel); k_whole); intro h' F' N'; (try simp only [List.push_toArray] at N'); (try k_sweep))
  k_with "enter" => (refine' code_def ?k1 ?k2 ?k3 ?k4 ?k5 ?kA ?kF ?kK ?k6 ?k7 ?k8 ?k9 ?kB ?_ ?c2 ?c3 ?c4 ?c5; (case kA => exact rfl); (case kF => exact rfl); (case kK => assumption); (case k1 => k_asm); (case k2 => k_asm); (case k3 => k_asm); (case k4 => k_asm); (case k5 => k_asm); (case k6 => k_is); (case k7 => k_is); (case k8 => ktr_room); (case k9 => first | exact BindsTo.of_eq rfl | exact binds_K (by k_in) rfl (by k_is) rfl rfl rfl); (case c5 => decide); (case kB => exact locs rfl); (case c2 => exact rfl); (case c3 => exact rfl); (case c4 => exact rfl); k_whole; intro g' L' h' FG' F' N' B' X' T'; (try dsimp only); (try k_lift B'); (try k_fold))
  k_with "JoinP" => (dsimp only [JoinP])
  k_with "subscriptTail" => (k_here; (with_reducible show wpAny _ _ (subscriptTail _ _ (Value.str (S _) _) (Value.int _ _)) _ _ _); first | (with_reducible refine item_S (by k_dflt (first | assumption | lia | k_extra "my item")) (by k_dflt tb_start) ?_) | k_dflt (refine item_Si (by lia) (by first | lia | k_extra "my item") (by tb_start) ?_))
  k_with "compareOp Eq str str" => ((with_reducible show wpAny _ _ (compareOp CmpOp.Eq (Value.str (S _) _) (Value.str (Str.ofString _) _)) _ _ _); k_dflt (first | refine eq_lit [13] (by decide +kernel) ?_ | refine eq_lit [10] (by decide +kernel) ?_))
  k_with "compareOp NotEq str str" => ((with_reducible show wpAny _ _ (compareOp CmpOp.NotEq (Value.str (S _) _) (Value.str (Str.ofString _) _)) _ _ _); k_dflt (first | refine ne_lit [13] (by decide +kernel) ?_ | refine ne_lit [10] (by decide +kernel) ?_))
  k_with "inplaceOp Add str str" => ((with_reducible show wpAny _ _ (inplaceOp Operator.Add (Value.str (S _) _) (Value.str (Str.ofString _) _)) _ _ _); k_dflt (refine iadd_lit [10] (by decide +kernel) (by tb_start) ?_); intro _ _)
  k_with "room" => (k_dflt ((first | apply room4 | apply room3 | apply room2 | apply room1 | apply room0 | apply roomz); assumption; exact rfl))
  k_dflt (k_extra "enter")
  k_steps
  have e0 : sg (SS4.getD 0 []) = [Str.ofString "<", Str.ofString "\n"] := by decide +kernel
  have e1 : sg (SS4.getD 1 []) = [Str.ofString "a", Str.ofString "\n", Str.ofString " "] := by decide +kernel
  have e2 : sg (SS4.getD 2 []) = [] := by decide +kernel
  have e3 : sg (SS4.getD 3 []) = [Str.ofString "\x01", Str.ofString "\ufdd0", Str.ofString "a", Str.ofString "<", Str.ofString "\n"] := by decide +kernel
  have e4 : sg (SS4.getD 4 []) = [Str.ofString "\x0d", Str.ofString "é", Str.ofString "\x00"] := by decide +kernel
  have e5 : sg (SS4.getD 5 []) = [Str.ofString "😀", Str.ofString "\x0c"] := by decide +kernel
  refine hret _ _ _ _ ⟨_, _, rfl, .head _, fun p hp => .tail _ (.tail _ (.tail _ (.tail _ (.tail _ (.tail _ (.tail _ hp)))))), rfl, fun i v hv => ?_⟩ (by assumption) (by assumption)
  match i, hv with
  | 0, hv =>
    obtain rfl := Option.some.inj hv
    exact ⟨_, _, rfl, .tail _ (.tail _ (.tail _ (.tail _ (.tail _ (.tail _ (.head _)))))), by assumption, by rw [e0]; exact .cons _ _ (.cons _ _ .nil)⟩
  | 1, hv =>
    obtain rfl := Option.some.inj hv
    exact ⟨_, _, rfl, .tail _ (.tail _ (.tail _ (.tail _ (.tail _ (.head _))))), kst_ltOf (And.right (by assumption)), by rw [e1]; exact .cons _ _ (.cons _ _ (.cons _ _ .nil))⟩
  | 2, hv =>
    obtain rfl := Option.some.inj hv
    exact ⟨_, _, rfl, .tail _ (.tail _ (.tail _ (.tail _ (.head _)))), kst_ltOf (And.right (And.right (by assumption))), by rw [e2]; exact .nil⟩
  | 3, hv =>
    obtain rfl := Option.some.inj hv
    exact ⟨_, _, rfl, .tail _ (.tail _ (.tail _ (.head _))), kst_ltOf (And.right (And.right (And.right (by assumption)))), by rw [e3]; exact .cons _ _ (.cons _ _ (.cons _ _ (.cons _ _ (.cons _ _ .nil))))⟩
  | 4, hv =>
    obtain rfl := Option.some.inj hv
    exact ⟨_, _, rfl, .tail _ (.tail _ (.head _)), kst_ltOf (And.right (And.right (And.right (And.right (by assumption))))), by rw [e4]; exact .cons _ _ (.cons _ _ (.cons _ _ .nil))⟩
  | 5, hv =>
    obtain rfl := Option.some.inj hv
    exact ⟨_, _, rfl, .tail _ (.head _), kst_ltOf (And.right (And.right (And.right (And.right (And.right (by assumption)))))), by rw [e5]; exact .cons _ _ (.cons _ _ .nil)⟩
  | (n + 6), hv => cases hv
end
section
variable {w : World} {mean : ExcName → Option Value} {mg mb : Str → Option Value} {news : List (Addr × Obj)}
set_option maxRecDepth 100000 in
set_option maxHeartbeats 8000000 in
theorem mended4_spec (l : List Nat) (t : Tok) (hl : l.length ≤ 100000) (news : List (Addr × Obj)) :
    Spec w mean mg mb 150 [.str (S l) t] 5 40 news (fun v nw => ∃ (D : Nat) (vs : List Value) (nn : Nat), v = .ref D ∧ (∀ q ∈ news, q.1 < D) ∧ nw = (D, W.listOf vs.toArray nn) :: news ∧ StrsAre vs (sg (norm l))) := by
  refine Spec.of ?_
  intro dp un gd cn cs a ccd cl outer A₀ base h₀ L m s Q E B F X N T hk hd hu hret
  k_with_none
  k_with "tb" => (first | assumption | (apply le3; assumption; exact rfl) | lia | (simp only [List.length_append, List.length_cons, List.length_nil, List.length_take, List.length_drop, List.length_dropLast, crs_len, partOf_len] at *; lia) | ((with_reducible refine Nat.le_trans (crlf_len _) ?_); tb_start) | ((with_reducible refine Nat.le_trans (split_len _) ?_); tb_start) | ((with_reducible refine Nat.le_trans (norm_len _) ?_); tb_start))
  k_with "call builtin:str.count" => (refine count4 (by decide +kernel) (by first | assumption | lia) ?_)
  k_with "call builtin:str.rfind" => (refine rfind4 (by decide +kernel) (by first | assumption | lia) ?_)
  k_with "call builtin:str.replace" => ((try dsimp only at *); k_dflt (refine repl_crlf_S (by decide +kernel) (by decide +kernel) (by k_ne) (by k_ne) (by k_ne) (by tb_start) ?_); intro _ _ _)
  k_with "call builtin:str.replace" => ((try dsimp only at *); k_dflt (refine repl_cr_S (by decide +kernel) (by decide +kernel) (by k_ne) (by k_ne) (by k_ne) (by tb_start) ?_); intro _ _ _)
  k_with "call builtin:len" => ((with_reducible show wpAny _ _ (call (Value.builtin "len") [Value.str (S _) _]) _ _ _); refine len_S (by tb_start) ?_)
  k_with "call builtin:ord" => ((with_reducible show wpAny _ _ (call (Value.builtin "ord") [Value.str (S _) _]) _ _ _); refine ord_S ?_)
  k_with "binaryOp Add str str" => ((with_reducible show wpAny _ _ (binaryOp Operator.Add (Value.str (S _) _) (Value.str (S _) _)) _ _ _); refine add_S (by tb_start) ?_; intro _ _)
  k_with "inplaceOp Add str str" => ((with_reducible show wpAny _ _ (inplaceOp Operator.Add (Value.str (S _) _) (Value.str (S _) _)) _ _ _); refine iadd_S (by tb_start) ?_; intro _ _)
  k_with "truthy str" => ((with_reducible show wpAny _ _ (truthy (Value.str (S _) _)) _ _ _); refine truthy_S (by tb_start) ?_)
  k_with "compareOp Eq str str" => ((with_reducible show wpAny _ _ (compareOp CmpOp.Eq (Value.str (S _) _) (Value.str (S _) _)) _ _ _); refine eq_S ?_)
  k_with "compareOp NotEq str str" => ((with_reducible show wpAny _ _ (compareOp CmpOp.NotEq (Value.str (S _) _) (Value.str (S _) _)) _ _ _); refine ne_S ?_)
  k_with "subscriptTail Name Slice str ref" => (k_here; (with_reducible rename Fr _ _ _ _ => F'); (with_reducible rename News _ _ _ _ => N'); k_dflt (refine drop_S (s := ⟨_, _, _, _, _⟩) F' N' (by tb_start) ?_); intro _ _ _ _ _; (try k_sweep))
  k_with "subscriptTail Name Slice str ref" => (k_here; (with_reducible rename Fr _ _ _ _ => F'); (with_reducible rename News _ _ _ _ => N'); k_dflt (refine take_S (s := ⟨_, _, _, _, _⟩) F' N' (by tb_start) ?_); intro _ _ _ _ _; (try k_sweep))
  k_with "subscriptTail Name Slice str ref" => (k_here; (with_reducible rename Fr _ _ _ _ => F'); (with_reducible rename News _ _ _ _ => N'); k_dflt (refine mid_S (s := ⟨_, _, _, _, _⟩) F' N' (by tb_start) ?_); intro _ _ _ _ _; (try k_sweep))
  k_with "subscriptTail Name Slice str ref" => (k_here; (with_reducible rename Fr _ _ _ _ => F'); (with_reducible rename News _ _ _ _ => N'); k_dflt (refine part_S (s := ⟨_, _, _, _, _⟩) F' N' (by tb_start) ?_); intro _ _ _ _ _; (try k_sweep))
  k_with "subscriptTail Name Slice str ref" => (k_here; (with_reducible rename Fr _ _ _ _ => F'); (with_reducible rename News _ _ _ _ => N'); k_dflt (refine init_S (s := ⟨_, _, _, _, _⟩) F' N' (by tb_start) ?_); intro _ _ _ _ _; (try k_sweep))
  k_with "subscriptTail Name UnaryOp str int" => (k_here; (with_reducible show wpAny _ _ (subscriptTail _ _ (Value.str (S _) _) (Value.int _ _)) _ _ _); k_dflt (first | (refine last_S (by first | assumption | (intro hz; simp only [hz, List.length_nil] at *; lia)) (by tb_start) ?_) | (refine item_S (by first | assumption | lia | k_extra "my item") (by tb_start) ?_)))
  k_with "subscriptTail Name Name str int" => (k_here; (with_reducible show wpAny _ _ (subscriptTail _ _ (Value.str (S _) _) (Value.int _ _)) _ _ _); first | (with_reducible refine item_S (by k_dflt (first | assumption | lia | k_extra "my item")) (by k_dflt tb_start) ?_) | k_dflt (refine item_Si (by lia) (by first | lia | k_extra "my item") (by tb_start) ?_))
  k_with "subscriptTail Name Constant str int" => (k_here; (with_reducible show wpAny _ _ (subscriptTail _ _ (Value.str (S _) _) (Value.int _ _)) _ _ _); first | (with_reducible refine item_S (by k_dflt (first | assumption | lia | k_extra "my item")) (by k_dflt tb_start) ?_) | k_dflt (refine item_Si (by lia) (by first | lia | k_extra "my item") (by tb_start) ?_))
  k_with "subscriptTail Name BinOp str int" => (k_here; (with_reducible show wpAny _ _ (subscriptTail _ _ (Value.str (S _) _) (Value.int _ _)) _ _ _); first | (with_reducible refine item_S (by k_dflt (first | assumption | lia | k_extra "my item")) (by k_dflt tb_start) ?_) | k_dflt (refine item_Si (by lia) (by first | lia | k_extra "my item") (by tb_start) ?_))
  k_with "subscriptTail Attribute Name str int" => (k_here; (with_reducible show wpAny _ _ (subscriptTail _ _ (Value.str (S _) _) (Value.int _ _)) _ _ _); first | (with_reducible refine item_S (by k_dflt (first | assumption | lia | k_extra "my item")) (by k_dflt tb_start) ?_) | k_dflt (refine item_Si (by lia) (by first | lia | k_extra "my item") (by tb_start) ?_))
  k_with "subscriptTail Attribute Constant str int" => (k_here; (with_reducible show wpAny _ _ (subscriptTail _ _ (Value.str (S _) _) (Value.int _ _)) _ _ _); first | (with_reducible refine item_S (by k_dflt (first | assumption | lia | k_extra "my item")) (by k_dflt tb_start) ?_) | k_dflt (refine item_Si (by lia) (by first | lia | k_extra "my item") (by tb_start) ?_))
  k_with "subscriptTail Attribute Attribute str int" => (k_here; (with_reducible show wpAny _ _ (subscriptTail _ _ (Value.str (S _) _) (Value.int _ _)) _ _ _); first | (with_reducible refine item_S (by k_dflt (first | assumption | lia | k_extra "my item")) (by k_dflt tb_start) ?_) | k_dflt (refine item_Si (by lia) (by first | lia | k_extra "my item") (by tb_start) ?_))
  k_with "truthy ref" => (k_here; k_dflt (refine' truthy_meth ?N ?q ?_; (case N => k_asm); (case q => k_mem); k_whole))
  k_with "exec For Name Name cons nil" => (k_here; (with_reducible rename Fr _ _ _ _ => lF'); k_dflt (refine' For_invVF lF' ?k1 ?k2 ?_; (case k1 => exact rfl); (case k2 => exact rfl); k_whole))
  k_with "exec For Name Subscript cons nil" => (k_here; (with_reducible rename Fr _ _ _ _ => lF'); k_dflt (refine' For_invVF lF' ?k1 ?k2 ?_; (case k1 => exact rfl); (case k2 => exact rfl); k_whole))
  k_with "all" => (refine List.forall_mem_append.mpr ⟨?a, ?b⟩; (case a => k_all); (case b => k_all))
  k_with "rel" => (simp only [List.size_toArray]; rw [PySem.sizeLine_eq]; lia)
  k_with "call builtin:list.append" => (k_here; (with_reducible show wpAny _ _ (call (Value.builtin _) [Value.ref _, _]) _ _ _); k_dflt (refine' append_K ?k1 ?k2 ?k3 ?_ ?z; (case k1 => k_asm); (case k2 => k_asm); (case k3 => k_upd); (case z => tb_rel); k_whole); intro h' F' N'; (try simp only [List.push_toArray] at N'); (try k_sweep))
  k_with "enter" => (refine' code_def ?k1 ?k2 ?k3 ?k4 ?k5 ?kA ?kF ?kK ?k6 ?k7 ?k8 ?k9 ?kB ?_ ?c2 ?c3 ?c4 ?c5; (case kA => exact rfl); (case kF => exact rfl); (case kK => assumption); (case k1 => k_asm); (case k2 => k_asm); (case k3 => k_asm); (case k4 => k_asm); (case k5 => k_asm); (case k6 => k_is); (case k7 => k_is); (case k8 => ktr_room); (case k9 => first | exact BindsTo.of_eq rfl | exact binds_K (by k_in) rfl (by k_is) rfl rfl rfl); (case c5 => decide); (case kB => exact locs rfl); (case c2 => exact rfl); (case c3 => exact rfl); (case c4 => exact rfl); k_whole; intro g' L' h' FG' F' N' B' X' T'; (try dsimp only); (try k_lift B'); (try k_fold))
  k_with "JoinP" => (dsimp only [JoinP])
  k_with "subscriptTail" => (k_here; (with_reducible show wpAny _ _ (subscriptTail _ _ (Value.str (S _) _) (Value.int _ _)) _ _ _); first | (with_reducible refine item_S (by k_dflt (first | assumption | lia | k_extra "my item")) (by k_dflt tb_start) ?_) | k_dflt (refine item_Si (by lia) (by first | lia | k_extra "my item") (by tb_start) ?_))
  k_with "compareOp Eq str str" => ((with_reducible show wpAny _ _ (compareOp CmpOp.Eq (Value.str (S _) _) (Value.str (Str.ofString _) _)) _ _ _); k_dflt (first | refine eq_lit [13] (by decide +kernel) ?_ | refine eq_lit [10] (by decide +kernel) ?_))
  k_with "compareOp NotEq str str" => ((with_reducible show wpAny _ _ (compareOp CmpOp.NotEq (Value.str (S _) _) (Value.str (Str.ofString _) _)) _ _ _); k_dflt (first | refine ne_lit [13] (by decide +kernel) ?_ | refine ne_lit [10] (by decide +kernel) ?_))
  k_with "inplaceOp Add str str" => ((with_reducible show wpAny _ _ (inplaceOp Operator.Add (Value.str (S _) _) (Value.str (Str.ofString _) _)) _ _ _); k_dflt (refine iadd_lit [10] (by decide +kernel) (by tb_start) ?_); intro _ _)
  k_with "room" => (k_dflt ((first | apply room4 | apply room3 | apply room2 | apply room1 | apply room0 | apply roomz); assumption; exact rfl))
  k_dflt (k_extra "enter")
  (rename Fr _ _ _ _ => F1)
  (with_unfolding_all change Fr _ _ _ (fun y => List.lookup y [(Str.ofString "text", Value.str (S l) t)]) at F1)
  k_steps
  (rename Fr _ _ _ _ => lF')
  (rename News _ _ _ _ => lN')
  (obtain ⟨D9, hD9, N9⟩ := name_new lN'); subst hD9
  (rename ∀ (p : Addr × Obj), p ∈ news → p.1 < _ => hlt)
  clear lN'
  k_dflt (refine loop_Sm (fun m₀ i m' nx => ∃ (vs : List Value) (nn : Nat), nx = (D9, W.listOf vs.toArray nn) :: news ∧ StrsAre vs (sg (mend none (l.take i))) ∧ ∃ (tb : Tok) (u : Option Value), m' = fun z => if z = Str.ofString "sign" then u else if z = Str.ofString "before" then some (.str (S (l.take i).getLast?.toList) tb) else m₀ z) (by rfl) lF' N9 ⟨[], 0, rfl, .nil, ?st⟩ ?_ ?_)
  (case st => exact mix_set1 _ _ (str_empty _) (fun z h1 h2 => rfl))
  · clear lF' N9
    intro i c t' m₁ n₁ h tk own hi hadr hoff hJ F' N'
    obtain ⟨vs, nn, rfl, hS, tb, u, rfl⟩ := hJ
    have hlm := mend_len (l.take i)
    rw [List.length_take] at hlm
    have hsz := StrsAre.length hS
    rw [List.length_map] at hsz
    (try k_fold)
    k_steps
    all_goals (
      rename News _ _ _ _ => N8
      refine led0_endA (news := (D9, _) :: news) (by assumption) N8 rfl ⟨_, _, rfl, ?_, mix_set1 _ _ (str_is rfl ?_) (fun z h1 h2 => (by repeat (first | with_reducible rfl | refine (if_neg (by assumption)).trans ?_ | rfl)))⟩
      · rw [mend_take hi]
        first
        | (rw [mendS_a (by assumption)]; exact sg_snoc hS nl_str)
        | (rw [mendS_b (by assumption) (by assumption)]; exact sg_snoc hS rfl)
        | (rw [mendS_c (by assumption) (by assumption)]; exact sg_snoc hS rfl)
        | (rw [mendS_d (by assumption) (by assumption) (by assumption), List.append_nil]; exact hS)
      · rw [last_take hi]; rfl)
  · clear lF' N9
    intro m₁ n₁ h tk hJ F' N'
    obtain ⟨vs, nn, rfl, hS, tb, u, rfl⟩ := hJ
    rw [List.take_length, mend_none] at hS
    (try dsimp only)
    (try k_fold)
    k_steps
    all_goals exact hret _ _ _ _ ⟨_, _, _, rfl, hlt, rfl, hS⟩ (by assumption) (by assumption)
end
section
variable {w : World} {mean : ExcName → Option Value} {mg mb : Str → Option Value} {news : List (Addr × Obj)}
set_option maxRecDepth 100000 in
set_option maxHeartbeats 8000000 in
theorem fetched_spec (l : List Nat) (a0 b0 c0 b1 : Nat) (t t1 t2 t3 : Tok) (hl : l.length ≤ 100000) (hb1 : b1 = Min.min (b0 + c0) l.length) (h1 : 0 < b1) (news : List (Addr × Obj)) :
    Spec w mean mg mb 157 [.str (S l) t, .int (a0 : Int) t1, .int (b0 : Int) t2, .int (c0 : Int) t3] 15 90 news (fun v nw => ∃ (D : Nat) (x y z : Int) (t1 t2 t3 : Tok), v = .ref D ∧ (∀ q ∈ news, q.1 < D) ∧ nw = (D, tup [.int x t1, .int y t2, .int z t3]) :: news ∧ x = (cutR l a0 b1 : Nat) ∧ y = (b1 : Nat) ∧ z = ((norm (l.take (cutR l a0 b1))).length : Nat)) := by
  obtain ⟨k, rfl⟩ : ∃ k, b1 = k + 1 := ⟨b1 - 1, by lia⟩
  have hT : (if (l.length : Int) < (b0 : Int) + (c0 : Int) then (l.length : Int) else (b0 : Int) + (c0 : Int)) = ((k + 1 : Nat) : Int) := by split <;> lia
  have hkl : k + 1 ≤ l.length := by lia
  have hk1 : ((k + 1 : Nat) : Int) - 1 = (k : Int) := by lia
  refine Spec.of ?_
  intro dp un gd cn cs a ccd cl outer A₀ base h₀ L m s Q E B F X N T hk hd hu hret
  k_with_none
  k_with "tb" => (first | assumption | (apply le3; assumption; exact rfl) | lia | (simp only [List.length_append, List.length_cons, List.length_nil, List.length_take, List.length_drop, List.length_dropLast, crs_len, partOf_len] at *; lia) | ((with_reducible refine Nat.le_trans (crlf_len _) ?_); tb_start) | ((with_reducible refine Nat.le_trans (split_len _) ?_); tb_start) | ((with_reducible refine Nat.le_trans (norm_len _) ?_); tb_start))
  k_with "call builtin:str.count" => (refine count4 (by decide +kernel) (by first | assumption | lia) ?_)
  k_with "call builtin:str.rfind" => (refine rfind4 (by decide +kernel) (by first | assumption | lia) ?_)
  k_with "call builtin:str.replace" => ((try dsimp only at *); k_dflt (refine repl_crlf_S (by decide +kernel) (by decide +kernel) (by k_ne) (by k_ne) (by k_ne) (by tb_start) ?_); intro _ _ _)
  k_with "call builtin:str.replace" => ((try dsimp only at *); k_dflt (refine repl_cr_S (by decide +kernel) (by decide +kernel) (by k_ne) (by k_ne) (by k_ne) (by tb_start) ?_); intro _ _ _)
  k_with "call builtin:len" => ((with_reducible show wpAny _ _ (call (Value.builtin "len") [Value.str (S _) _]) _ _ _); refine len_S (by tb_start) ?_)
  k_with "call builtin:ord" => ((with_reducible show wpAny _ _ (call (Value.builtin "ord") [Value.str (S _) _]) _ _ _); refine ord_S ?_)
  k_with "binaryOp Add str str" => ((with_reducible show wpAny _ _ (binaryOp Operator.Add (Value.str (S _) _) (Value.str (S _) _)) _ _ _); refine add_S (by tb_start) ?_; intro _ _)
  k_with "inplaceOp Add str str" => ((with_reducible show wpAny _ _ (inplaceOp Operator.Add (Value.str (S _) _) (Value.str (S _) _)) _ _ _); refine iadd_S (by tb_start) ?_; intro _ _)
  k_with "truthy str" => ((with_reducible show wpAny _ _ (truthy (Value.str (S _) _)) _ _ _); refine truthy_S (by tb_start) ?_)
  k_with "compareOp Eq str str" => ((with_reducible show wpAny _ _ (compareOp CmpOp.Eq (Value.str (S _) _) (Value.str (S _) _)) _ _ _); refine eq_S ?_)
  k_with "compareOp NotEq str str" => ((with_reducible show wpAny _ _ (compareOp CmpOp.NotEq (Value.str (S _) _) (Value.str (S _) _)) _ _ _); refine ne_S ?_)
  k_with "subscriptTail Name Slice str ref" => (k_here; (with_reducible rename Fr _ _ _ _ => F'); (with_reducible rename News _ _ _ _ => N'); k_dflt (refine drop_S (s := ⟨_, _, _, _, _⟩) F' N' (by tb_start) ?_); intro _ _ _ _ _; (try k_sweep))
  k_with "subscriptTail Name Slice str ref" => (k_here; (with_reducible rename Fr _ _ _ _ => F'); (with_reducible rename News _ _ _ _ => N'); k_dflt (refine take_S (s := ⟨_, _, _, _, _⟩) F' N' (by tb_start) ?_); intro _ _ _ _ _; (try k_sweep))
  k_with "subscriptTail Name Slice str ref" => (k_here; (with_reducible rename Fr _ _ _ _ => F'); (with_reducible rename News _ _ _ _ => N'); k_dflt (refine mid_S (s := ⟨_, _, _, _, _⟩) F' N' (by tb_start) ?_); intro _ _ _ _ _; (try k_sweep))
  k_with "subscriptTail Name Slice str ref" => (k_here; (with_reducible rename Fr _ _ _ _ => F'); (with_reducible rename News _ _ _ _ => N'); k_dflt (refine part_S (s := ⟨_, _, _, _, _⟩) F' N' (by tb_start) ?_); intro _ _ _ _ _; (try k_sweep))
  k_with "subscriptTail Name Slice str ref" => (k_here; (with_reducible rename Fr _ _ _ _ => F'); (with_reducible rename News _ _ _ _ => N'); k_dflt (refine init_S (s := ⟨_, _, _, _, _⟩) F' N' (by tb_start) ?_); intro _ _ _ _ _; (try k_sweep))
  k_with "subscriptTail Name UnaryOp str int" => (k_here; (with_reducible show wpAny _ _ (subscriptTail _ _ (Value.str (S _) _) (Value.int _ _)) _ _ _); k_dflt (first | (refine last_S (by first | assumption | (intro hz; simp only [hz, List.length_nil] at *; lia)) (by tb_start) ?_) | (refine item_S (by first | assumption | lia | k_extra "my item") (by tb_start) ?_)))
  k_with "subscriptTail Name Name str int" => (k_here; (with_reducible show wpAny _ _ (subscriptTail _ _ (Value.str (S _) _) (Value.int _ _)) _ _ _); first | (with_reducible refine item_S (by k_dflt (first | assumption | lia | k_extra "my item")) (by k_dflt tb_start) ?_) | k_dflt (refine item_Si (by lia) (by first | lia | k_extra "my item") (by tb_start) ?_))
  k_with "subscriptTail Name Constant str int" => (k_here; (with_reducible show wpAny _ _ (subscriptTail _ _ (Value.str (S _) _) (Value.int _ _)) _ _ _); first | (with_reducible refine item_S (by k_dflt (first | assumption | lia | k_extra "my item")) (by k_dflt tb_start) ?_) | k_dflt (refine item_Si (by lia) (by first | lia | k_extra "my item") (by tb_start) ?_))
  k_with "subscriptTail Name BinOp str int" => (k_here; (with_reducible show wpAny _ _ (subscriptTail _ _ (Value.str (S _) _) (Value.int _ _)) _ _ _); first | (with_reducible refine item_S (by k_dflt (first | assumption | lia | k_extra "my item")) (by k_dflt tb_start) ?_) | k_dflt (refine item_Si (by lia) (by first | lia | k_extra "my item") (by tb_start) ?_))
  k_with "subscriptTail Attribute Name str int" => (k_here; (with_reducible show wpAny _ _ (subscriptTail _ _ (Value.str (S _) _) (Value.int _ _)) _ _ _); first | (with_reducible refine item_S (by k_dflt (first | assumption | lia | k_extra "my item")) (by k_dflt tb_start) ?_) | k_dflt (refine item_Si (by lia) (by first | lia | k_extra "my item") (by tb_start) ?_))
  k_with "subscriptTail Attribute Constant str int" => (k_here; (with_reducible show wpAny _ _ (subscriptTail _ _ (Value.str (S _) _) (Value.int _ _)) _ _ _); first | (with_reducible refine item_S (by k_dflt (first | assumption | lia | k_extra "my item")) (by k_dflt tb_start) ?_) | k_dflt (refine item_Si (by lia) (by first | lia | k_extra "my item") (by tb_start) ?_))
  k_with "subscriptTail Attribute Attribute str int" => (k_here; (with_reducible show wpAny _ _ (subscriptTail _ _ (Value.str (S _) _) (Value.int _ _)) _ _ _); first | (with_reducible refine item_S (by k_dflt (first | assumption | lia | k_extra "my item")) (by k_dflt tb_start) ?_) | k_dflt (refine item_Si (by lia) (by first | lia | k_extra "my item") (by tb_start) ?_))
  k_with "truthy ref" => (k_here; k_dflt (refine' truthy_meth ?N ?q ?_; (case N => k_asm); (case q => k_mem); k_whole))
  k_with "exec For Name Name cons nil" => (k_here; (with_reducible rename Fr _ _ _ _ => lF'); k_dflt (refine' For_invVF lF' ?k1 ?k2 ?_; (case k1 => exact rfl); (case k2 => exact rfl); k_whole))
  k_with "exec For Name Subscript cons nil" => (k_here; (with_reducible rename Fr _ _ _ _ => lF'); k_dflt (refine' For_invVF lF' ?k1 ?k2 ?_; (case k1 => exact rfl); (case k2 => exact rfl); k_whole))
  k_with "all" => (refine List.forall_mem_append.mpr ⟨?a, ?b⟩; (case a => k_all); (case b => k_all))
  k_with "rel" => (simp only [List.size_toArray]; rw [PySem.sizeLine_eq]; lia)
  k_with "call builtin:list.append" => (k_here; (with_reducible show wpAny _ _ (call (Value.builtin _) [Value.ref _, _]) _ _ _); k_dflt (refine' append_K ?k1 ?k2 ?k3 ?_ ?z; (case k1 => k_asm); (case k2 => k_asm); (case k3 => k_upd); (case z => tb_rel); k_whole); intro h' F' N'; (try simp only [List.push_toArray] at N'); (try k_sweep))
  k_with "enter" => (refine' code_def ?k1 ?k2 ?k3 ?k4 ?k5 ?kA ?kF ?kK ?k6 ?k7 ?k8 ?k9 ?kB ?_ ?c2 ?c3 ?c4 ?c5; (case kA => exact rfl); (case kF => exact rfl); (case kK => assumption); (case k1 => k_asm); (case k2 => k_asm); (case k3 => k_asm); (case k4 => k_asm); (case k5 => k_asm); (case k6 => k_is); (case k7 => k_is); (case k8 => ktr_room); (case k9 => first | exact BindsTo.of_eq rfl | exact binds_K (by k_in) rfl (by k_is) rfl rfl rfl); (case c5 => decide); (case kB => exact locs rfl); (case c2 => exact rfl); (case c3 => exact rfl); (case c4 => exact rfl); k_whole; intro g' L' h' FG' F' N' B' X' T'; (try dsimp only); (try k_lift B'); (try k_fold))
  k_with "JoinP" => (dsimp only [JoinP])
  k_with "subscriptTail" => (k_here; (with_reducible show wpAny _ _ (subscriptTail _ _ (Value.str (S _) _) (Value.int _ _)) _ _ _); first | (with_reducible refine item_S (by k_dflt (first | assumption | lia | k_extra "my item")) (by k_dflt tb_start) ?_) | k_dflt (refine item_Si (by lia) (by first | lia | k_extra "my item") (by tb_start) ?_))
  k_with "compareOp Eq str str" => ((with_reducible show wpAny _ _ (compareOp CmpOp.Eq (Value.str (S _) _) (Value.str (Str.ofString _) _)) _ _ _); k_dflt (first | refine eq_lit [13] (by decide +kernel) ?_ | refine eq_lit [10] (by decide +kernel) ?_))
  k_with "compareOp NotEq str str" => ((with_reducible show wpAny _ _ (compareOp CmpOp.NotEq (Value.str (S _) _) (Value.str (Str.ofString _) _)) _ _ _); k_dflt (first | refine ne_lit [13] (by decide +kernel) ?_ | refine ne_lit [10] (by decide +kernel) ?_))
  k_with "inplaceOp Add str str" => ((with_reducible show wpAny _ _ (inplaceOp Operator.Add (Value.str (S _) _) (Value.str (Str.ofString _) _)) _ _ _); k_dflt (refine iadd_lit [10] (by decide +kernel) (by tb_start) ?_); intro _ _)
  k_with "room" => (k_dflt ((first | apply room4 | apply room3 | apply room2 | apply room1 | apply room0 | apply roomz); assumption; exact rfl))
  k_with "storeName" => ((with_reducible show wpAny _ _ (storeName _ _ (Value.int (if _ then _ else _) _)) _ _ _); k_dflt (rw [hT]))
  k_with "storeName" => ((with_reducible show wpAny _ _ (storeName _ _ (Value.int (HSub.hSub _ _) _)) _ _ _); k_dflt (rw [hk1]))
  k_with "call ref" => ((with_reducible show wpAny _ _ (call (Value.ref 150) _) _ _ _); k_dflt ((refine' Spec.useList (mended4_spec _ _ (Nat.le_trans (List.length_take_le' _ _) hl) _) ?B ?F ?X ?N ?T ?hk ?hd ?hu ?_); (case B => k_asm); (case F => k_asm); (case X => k_asm); (case T => k_asm); (case hk => first | exact rfl | assumption); (case N => first | k_asm | exact News.tl (by k_asm) | exact News.tl (News.tl (by k_asm)) | exact News.tl (News.tl (News.tl (by k_asm)))); (case hd => ktr_room); (case hu => ktr_units); intro D8 vs8 nn8 h' tk' hlt' hS8 hle' F' N'; (have hsz8 := StrsAre.length hS8); (rw [List.length_map] at hsz8); (try k_lt hlt'); (try dsimp only); (try k_fold)))
  k_with "call builtin:len" => ((with_reducible show wpAny _ _ (call (Value.builtin _) [Value.ref _]) _ _ _); k_dflt (refine len_sg (News.isList (by k_asm) (.head _)) hS8 (Nat.le_trans (norm_len _) (by rw [List.length_take]; lia)) ?_))
  k_dflt (k_extra "enter")
  (rename Fr _ _ _ _ => F1)
  (with_unfolding_all change Fr _ _ _ (fun y => List.lookup y [(Str.ofString "size", Value.int (c0 : Int) t3), (Str.ofString "taken", Value.int (b0 : Int) t2), (Str.ofString "start", Value.int (a0 : Int) t1), (Str.ofString "text", Value.str (S l) t)]) at F1)
  k_steps
  all_goals (
    rename News h₀ _ _ (_ :: _ :: _) => N9
    first
    | (have e := cut_a (l := l) (start := a0) (k := k) (by assumption) (by assumption)
       refine hret _ _ _ _ ⟨_, _, _, _, _, _, _, rfl, ?hlt1, rfl, by lia, rfl, ?hz1⟩ (by assumption) (News.dr N9)
       · exact kst_ltOf (And.right (by assumption))
       · exact congrArg (fun z : Nat => ((norm (l.take z)).length : Int)) (by lia))
    | (have e := cut_b (l := l) (start := a0) (k := k) (by assumption)
       refine hret _ _ _ _ ⟨_, _, _, _, _, _, _, rfl, ?hlt2, rfl, by lia, rfl, ?hz2⟩ (by assumption) (News.dr N9)
       · exact kst_ltOf (And.right (by assumption))
       · exact congrArg (fun z : Nat => ((norm (l.take z)).length : Int)) (by lia))
    | (have e := cut_c (l := l) (start := a0) (k := k) (by assumption)
       refine hret _ _ _ _ ⟨_, _, _, _, _, _, _, rfl, ?hlt3, rfl, by lia, rfl, ?hz3⟩ (by assumption) (News.dr N9)
       · exact kst_ltOf (And.right (by assumption))
       · exact congrArg (fun z : Nat => ((norm (l.take z)).length : Int)) (by lia))
    | trace_state)
theorem fetched_at (l : List Nat) (a0 b0 c0 b1 : Nat) (t t1 t2 t3 : Tok) (hl : l.length ≤ 100000) (hb1 : b1 = Min.min (b0 + c0) l.length) (h1 : 0 < b1) (news : List (Addr × Obj)) {c1 : Nat} (e1 : cutR l a0 b1 = c1) :
    Spec w mean mg mb 157 [.str (S l) t, .int (a0 : Int) t1, .int (b0 : Int) t2, .int (c0 : Int) t3] 15 90 news (fun v nw => ∃ (D : Nat) (x y z : Int) (t1 t2 t3 : Tok), v = .ref D ∧ (∀ q ∈ news, q.1 < D) ∧ nw = (D, tup [.int x t1, .int y t2, .int z t3]) :: news ∧ x = (c1 : Nat) ∧ y = (b1 : Nat) ∧ z = ((norm (l.take (c1))).length : Nat)) := by
  subst e1
  exact fetched_spec l a0 b0 c0 b1 t t1 t2 t3 hl hb1 h1 news
end
section
variable {w : World} {mean : ExcName → Option Value} {mg mb : Str → Option Value} {news : List (Addr × Obj)}
set_option maxRecDepth 100000 in
set_option maxHeartbeats 8000000 in
theorem end_spec (T : List Nat) (q : List Nat) (b : Bool) (p : Nat) (tp : Tok) (hp : p ≤ T.length) (hT : T.length ≤ 1000) {Dg Ds nn : Nat} {vs ts : List Value} (hg : (Dg, W.listOf vs.toArray nn) ∈ news) (hS : StrsAre vs (sg T)) (hs : (Ds, tup ts) ∈ news) (hQ : StrsAre ts (sg q)) :
    Spec w mean mg mb 171 [.ref Dg, .int (p : Int) tp, .ref Ds, .bool b] 5 90 news (fun v nw => (∃ t, v = .int ((p + (runL (fun c => decide (c ∈ q)) b (T.drop p)).length : Nat) : Int) t) ∧ nw = news) := by
  refine Spec.of ?_
  intro dp un gd cn cs a ccd cl outer A₀ base h₀ L m s Q E B F X N Tt hk hd hu hret
  obtain ⟨run, hrun⟩ : ∃ r, (runL (fun c => decide (c ∈ q)) b (T.drop p)).length = r := ⟨_, rfl⟩
  have hrl := runL_le (fun c => decide (c ∈ q)) b (T.drop p)
  rw [List.length_drop, hrun] at hrl
  have hyes : ∀ j, j < run → decide (T.getD (p + j) 0 ∈ q) = b := fun j hj => by
    rw [← getD_drop]; exact runL_yes (P := fun c => decide (c ∈ q)) (by lia)
  have hno : ∀ j, j = run → p + j < T.length → decide (T.getD (p + j) 0 ∈ q) = !b := fun j hj h2 => by
    subst hj
    rw [← getD_drop, ← hrun]
    exact runL_no (P := fun c => decide (c ∈ q)) (by rw [List.length_drop]; lia)
  rw [hrun] at hret
  clear hrun
  k_with_none
  k_with "tb" => (first | assumption | (apply le3; assumption; exact rfl) | lia | (simp only [List.length_append, List.length_cons, List.length_nil, List.length_take, List.length_drop, List.length_dropLast, crs_len, partOf_len] at *; lia) | ((with_reducible refine Nat.le_trans (crlf_len _) ?_); tb_start) | ((with_reducible refine Nat.le_trans (split_len _) ?_); tb_start) | ((with_reducible refine Nat.le_trans (norm_len _) ?_); tb_start))
  k_with "call builtin:str.count" => (refine count4 (by decide +kernel) (by first | assumption | lia) ?_)
  k_with "call builtin:str.rfind" => (refine rfind4 (by decide +kernel) (by first | assumption | lia) ?_)
  k_with "call builtin:str.replace" => ((try dsimp only at *); k_dflt (refine repl_crlf_S (by decide +kernel) (by decide +kernel) (by k_ne) (by k_ne) (by k_ne) (by tb_start) ?_); intro _ _ _)
  k_with "call builtin:str.replace" => ((try dsimp only at *); k_dflt (refine repl_cr_S (by decide +kernel) (by decide +kernel) (by k_ne) (by k_ne) (by k_ne) (by tb_start) ?_); intro _ _ _)
  k_with "call builtin:len" => ((with_reducible show wpAny _ _ (call (Value.builtin "len") [Value.str (S _) _]) _ _ _); refine len_S (by tb_start) ?_)
  k_with "call builtin:ord" => ((with_reducible show wpAny _ _ (call (Value.builtin "ord") [Value.str (S _) _]) _ _ _); refine ord_S ?_)
  k_with "binaryOp Add str str" => ((with_reducible show wpAny _ _ (binaryOp Operator.Add (Value.str (S _) _) (Value.str (S _) _)) _ _ _); refine add_S (by tb_start) ?_; intro _ _)
  k_with "inplaceOp Add str str" => ((with_reducible show wpAny _ _ (inplaceOp Operator.Add (Value.str (S _) _) (Value.str (S _) _)) _ _ _); refine iadd_S (by tb_start) ?_; intro _ _)
  k_with "truthy str" => ((with_reducible show wpAny _ _ (truthy (Value.str (S _) _)) _ _ _); refine truthy_S (by tb_start) ?_)
  k_with "compareOp Eq str str" => ((with_reducible show wpAny _ _ (compareOp CmpOp.Eq (Value.str (S _) _) (Value.str (S _) _)) _ _ _); refine eq_S ?_)
  k_with "compareOp NotEq str str" => ((with_reducible show wpAny _ _ (compareOp CmpOp.NotEq (Value.str (S _) _) (Value.str (S _) _)) _ _ _); refine ne_S ?_)
  k_with "subscriptTail Name Slice str ref" => (k_here; (with_reducible rename Fr _ _ _ _ => F'); (with_reducible rename News _ _ _ _ => N'); k_dflt (refine drop_S (s := ⟨_, _, _, _, _⟩) F' N' (by tb_start) ?_); intro _ _ _ _ _; (try k_sweep))
  k_with "subscriptTail Name Slice str ref" => (k_here; (with_reducible rename Fr _ _ _ _ => F'); (with_reducible rename News _ _ _ _ => N'); k_dflt (refine take_S (s := ⟨_, _, _, _, _⟩) F' N' (by tb_start) ?_); intro _ _ _ _ _; (try k_sweep))
  k_with "subscriptTail Name Slice str ref" => (k_here; (with_reducible rename Fr _ _ _ _ => F'); (with_reducible rename News _ _ _ _ => N'); k_dflt (refine mid_S (s := ⟨_, _, _, _, _⟩) F' N' (by tb_start) ?_); intro _ _ _ _ _; (try k_sweep))
  k_with "subscriptTail Name Slice str ref" => (k_here; (with_reducible rename Fr _ _ _ _ => F'); (with_reducible rename News _ _ _ _ => N'); k_dflt (refine part_S (s := ⟨_, _, _, _, _⟩) F' N' (by tb_start) ?_); intro _ _ _ _ _; (try k_sweep))
  k_with "subscriptTail Name Slice str ref" => (k_here; (with_reducible rename Fr _ _ _ _ => F'); (with_reducible rename News _ _ _ _ => N'); k_dflt (refine init_S (s := ⟨_, _, _, _, _⟩) F' N' (by tb_start) ?_); intro _ _ _ _ _; (try k_sweep))
  k_with "subscriptTail Name UnaryOp str int" => (k_here; (with_reducible show wpAny _ _ (subscriptTail _ _ (Value.str (S _) _) (Value.int _ _)) _ _ _); k_dflt (first | (refine last_S (by first | assumption | (intro hz; simp only [hz, List.length_nil] at *; lia)) (by tb_start) ?_) | (refine item_S (by first | assumption | lia | k_extra "my item") (by tb_start) ?_)))
  k_with "subscriptTail Name Name str int" => (k_here; (with_reducible show wpAny _ _ (subscriptTail _ _ (Value.str (S _) _) (Value.int _ _)) _ _ _); first | (with_reducible refine item_S (by k_dflt (first | assumption | lia | k_extra "my item")) (by k_dflt tb_start) ?_) | k_dflt (refine item_Si (by lia) (by first | lia | k_extra "my item") (by tb_start) ?_))
  k_with "subscriptTail Name Constant str int" => (k_here; (with_reducible show wpAny _ _ (subscriptTail _ _ (Value.str (S _) _) (Value.int _ _)) _ _ _); first | (with_reducible refine item_S (by k_dflt (first | assumption | lia | k_extra "my item")) (by k_dflt tb_start) ?_) | k_dflt (refine item_Si (by lia) (by first | lia | k_extra "my item") (by tb_start) ?_))
  k_with "subscriptTail Name BinOp str int" => (k_here; (with_reducible show wpAny _ _ (subscriptTail _ _ (Value.str (S _) _) (Value.int _ _)) _ _ _); first | (with_reducible refine item_S (by k_dflt (first | assumption | lia | k_extra "my item")) (by k_dflt tb_start) ?_) | k_dflt (refine item_Si (by lia) (by first | lia | k_extra "my item") (by tb_start) ?_))
  k_with "subscriptTail Attribute Name str int" => (k_here; (with_reducible show wpAny _ _ (subscriptTail _ _ (Value.str (S _) _) (Value.int _ _)) _ _ _); first | (with_reducible refine item_S (by k_dflt (first | assumption | lia | k_extra "my item")) (by k_dflt tb_start) ?_) | k_dflt (refine item_Si (by lia) (by first | lia | k_extra "my item") (by tb_start) ?_))
  k_with "subscriptTail Attribute Constant str int" => (k_here; (with_reducible show wpAny _ _ (subscriptTail _ _ (Value.str (S _) _) (Value.int _ _)) _ _ _); first | (with_reducible refine item_S (by k_dflt (first | assumption | lia | k_extra "my item")) (by k_dflt tb_start) ?_) | k_dflt (refine item_Si (by lia) (by first | lia | k_extra "my item") (by tb_start) ?_))
  k_with "subscriptTail Attribute Attribute str int" => (k_here; (with_reducible show wpAny _ _ (subscriptTail _ _ (Value.str (S _) _) (Value.int _ _)) _ _ _); first | (with_reducible refine item_S (by k_dflt (first | assumption | lia | k_extra "my item")) (by k_dflt tb_start) ?_) | k_dflt (refine item_Si (by lia) (by first | lia | k_extra "my item") (by tb_start) ?_))
  k_with "truthy ref" => (k_here; k_dflt (refine' truthy_meth ?N ?q ?_; (case N => k_asm); (case q => k_mem); k_whole))
  k_with "exec For Name Name cons nil" => (k_here; (with_reducible rename Fr _ _ _ _ => lF'); k_dflt (refine' For_invVF lF' ?k1 ?k2 ?_; (case k1 => exact rfl); (case k2 => exact rfl); k_whole))
  k_with "exec For Name Subscript cons nil" => (k_here; (with_reducible rename Fr _ _ _ _ => lF'); k_dflt (refine' For_invVF lF' ?k1 ?k2 ?_; (case k1 => exact rfl); (case k2 => exact rfl); k_whole))
  k_with "all" => (refine List.forall_mem_append.mpr ⟨?a, ?b⟩; (case a => k_all); (case b => k_all))
  k_with "rel" => (simp only [List.size_toArray]; rw [PySem.sizeLine_eq]; lia)
  k_with "call builtin:list.append" => (k_here; (with_reducible show wpAny _ _ (call (Value.builtin _) [Value.ref _, _]) _ _ _); k_dflt (refine' append_K ?k1 ?k2 ?k3 ?_ ?z; (case k1 => k_asm); (case k2 => k_asm); (case k3 => k_upd); (case z => tb_rel); k_whole); intro h' F' N'; (try simp only [List.push_toArray] at N'); (try k_sweep))
  k_with "enter" => (refine' code_def ?k1 ?k2 ?k3 ?k4 ?k5 ?kA ?kF ?kK ?k6 ?k7 ?k8 ?k9 ?kB ?_ ?c2 ?c3 ?c4 ?c5; (case kA => exact rfl); (case kF => exact rfl); (case kK => assumption); (case k1 => k_asm); (case k2 => k_asm); (case k3 => k_asm); (case k4 => k_asm); (case k5 => k_asm); (case k6 => k_is); (case k7 => k_is); (case k8 => ktr_room); (case k9 => first | exact BindsTo.of_eq rfl | exact binds_K (by k_in) rfl (by k_is) rfl rfl rfl); (case c5 => decide); (case kB => exact locs rfl); (case c2 => exact rfl); (case c3 => exact rfl); (case c4 => exact rfl); k_whole; intro g' L' h' FG' F' N' B' X' T'; (try dsimp only); (try k_lift B'); (try k_fold))
  k_with "JoinP" => (dsimp only [JoinP])
  k_with "subscriptTail" => (k_here; (with_reducible show wpAny _ _ (subscriptTail _ _ (Value.str (S _) _) (Value.int _ _)) _ _ _); first | (with_reducible refine item_S (by k_dflt (first | assumption | lia | k_extra "my item")) (by k_dflt tb_start) ?_) | k_dflt (refine item_Si (by lia) (by first | lia | k_extra "my item") (by tb_start) ?_))
  k_with "compareOp Eq str str" => ((with_reducible show wpAny _ _ (compareOp CmpOp.Eq (Value.str (S _) _) (Value.str (Str.ofString _) _)) _ _ _); k_dflt (first | refine eq_lit [13] (by decide +kernel) ?_ | refine eq_lit [10] (by decide +kernel) ?_))
  k_with "compareOp NotEq str str" => ((with_reducible show wpAny _ _ (compareOp CmpOp.NotEq (Value.str (S _) _) (Value.str (Str.ofString _) _)) _ _ _); k_dflt (first | refine ne_lit [13] (by decide +kernel) ?_ | refine ne_lit [10] (by decide +kernel) ?_))
  k_with "inplaceOp Add str str" => ((with_reducible show wpAny _ _ (inplaceOp Operator.Add (Value.str (S _) _) (Value.str (Str.ofString _) _)) _ _ _); k_dflt (refine iadd_lit [10] (by decide +kernel) (by tb_start) ?_); intro _ _)
  k_with "room" => (k_dflt ((first | apply room4 | apply room3 | apply room2 | apply room1 | apply room0 | apply roomz); assumption; exact rfl))
  k_with "call builtin:len" => ((with_reducible show wpAny _ _ (call (Value.builtin _) [Value.ref _]) _ _ _); k_dflt (refine len_sg (News.isList (by k_asm) hg) hS (by lia) ?_))
  k_with "subscriptTail" => ((with_reducible show wpAny _ _ (subscriptTail _ _ (Value.ref _) (Value.int _ _)) _ _ _); k_dflt (refine item_sg (News.isList (by k_asm) hg) hS (by lia) (by lia) (by lia) ?_); intro ti; (try rw [Int.toNat_natCast]))
  k_with "compareOp In str ref" => ((with_reducible show wpAny _ _ (compareOp CmpOp.In (Value.str (S [_]) _) (Value.ref _)) _ _ _); k_dflt (refine in_sg (tup_of (by k_asm) hs) hQ (by ke_room) ?_); (first | rw [hyes j (by lia)] | rw [hno j (by lia) (by lia)]))
  k_with "compareOp Eq bool bool" => (k_dflt (refine eq_bool ?_); first | rw [beq_self_eq_true] | rw [not_beq])
  k_with "exec While" => ((with_reducible rename Fr _ _ _ _ => F9); (with_reducible rename News _ _ _ _ => N9); k_dflt ((refine while_m (fun m₀ n m' nx => nx = news ∧ ∃ j : Nat, j + n = run ∧ ∃ t : Tok, m' = fun z => if z = Str.ofString "place" then some (.int ((p + j : Nat) : Int) t) else m₀ z) run F9 N9 ⟨rfl, 0, by lia, set1 ⟨_, rfl⟩ (fun z hz => rfl)⟩ ?_); (clear F9 N9); (intro n m₁ nx h₁ tk₁ hJ F' N'; (obtain ⟨hnx, j, hjn, tj, hm'⟩ := hJ); subst hm' hnx; (rcases Nat.lt_or_ge j run with hj | hj) <;> ((try dsimp only); (try k_fold)))))
  k_with "WhileStep2" => ((with_reducible show WhileStep2 _ _ _ _ _ _ Flow.next _); k_dflt (refine wstep_end (n' := n - 1) (by assumption) (by assumption) (by lia) ⟨rfl, j + 1, by lia, set1 ⟨_, int_eq (show ((p + j : Nat) : Int) + 1 = ((p + (j + 1) : Nat) : Int) by lia)⟩ (fun z hz => (by repeat (first | with_reducible rfl | refine (if_neg (by assumption)).trans ?_ | rfl)))⟩))
  k_dflt (k_extra "enter")
  (rename Fr _ _ _ _ => F1)
  (with_unfolding_all change Fr _ _ _ (fun y => List.lookup y [(Str.ofString "inside", Value.bool b), (Str.ofString "stops", Value.ref Ds), (Str.ofString "place", Value.int (p : Int) tp), (Str.ofString "signs", Value.ref Dg)]) at F1)
  k_steps
  all_goals (
    obtain rfl : j = run := by lia
    rename Fr _ _ _ _ => F9
    first
    | exact hret _ _ _ _ ⟨⟨_, rfl⟩, rfl⟩ (by assumption) (by assumption)
    | (rename ((_ == _) = true) => hz; cases b <;> exact absurd hz (by decide))
    | trace_state)
end
section
variable {w : World} {mean : ExcName → Option Value} {mg mb : Str → Option Value} {news : List (Addr × Obj)}
set_option maxRecDepth 100000 in
set_option maxHeartbeats 8000000 in
theorem places_spec (T : List Nat) (hT : T.length ≤ 1000) {Dg nn : Nat} {vs : List Value} (hg : (Dg, W.listOf vs.toArray nn) ∈ news) (hS : StrsAre vs (sg T)) :
    Spec w mean mg mb 164 [.ref Dg] 5 90 news (fun v nw => ∃ (D : Nat) (ws : List Value) (n2 : Nat) (r : List (Addr × Obj)), v = .ref D ∧ nw = (D, W.listOf ws.toArray n2) :: r ∧ (∀ p ∈ news, p ∈ r) ∧ PlOk T T.length ws r) := by
  refine Spec.of ?_
  intro dp un gd cn cs a ccd cl outer A₀ base h₀ L m s Q E B F X N Tt hk hd hu hret
  k_with_none
  k_with "tb" => (first | assumption | (apply le3; assumption; exact rfl) | lia | (simp only [List.length_append, List.length_cons, List.length_nil, List.length_take, List.length_drop, List.length_dropLast, crs_len, partOf_len] at *; lia) | ((with_reducible refine Nat.le_trans (crlf_len _) ?_); tb_start) | ((with_reducible refine Nat.le_trans (split_len _) ?_); tb_start) | ((with_reducible refine Nat.le_trans (norm_len _) ?_); tb_start))
  k_with "call builtin:str.count" => (refine count4 (by decide +kernel) (by first | assumption | lia) ?_)
  k_with "call builtin:str.rfind" => (refine rfind4 (by decide +kernel) (by first | assumption | lia) ?_)
  k_with "call builtin:str.replace" => ((try dsimp only at *); k_dflt (refine repl_crlf_S (by decide +kernel) (by decide +kernel) (by k_ne) (by k_ne) (by k_ne) (by tb_start) ?_); intro _ _ _)
  k_with "call builtin:str.replace" => ((try dsimp only at *); k_dflt (refine repl_cr_S (by decide +kernel) (by decide +kernel) (by k_ne) (by k_ne) (by k_ne) (by tb_start) ?_); intro _ _ _)
  k_with "call builtin:len" => ((with_reducible show wpAny _ _ (call (Value.builtin "len") [Value.str (S _) _]) _ _ _); refine len_S (by tb_start) ?_)
  k_with "call builtin:ord" => ((with_reducible show wpAny _ _ (call (Value.builtin "ord") [Value.str (S _) _]) _ _ _); refine ord_S ?_)
  k_with "binaryOp Add str str" => ((with_reducible show wpAny _ _ (binaryOp Operator.Add (Value.str (S _) _) (Value.str (S _) _)) _ _ _); refine add_S (by tb_start) ?_; intro _ _)
  k_with "inplaceOp Add str str" => ((with_reducible show wpAny _ _ (inplaceOp Operator.Add (Value.str (S _) _) (Value.str (S _) _)) _ _ _); refine iadd_S (by tb_start) ?_; intro _ _)
  k_with "truthy str" => ((with_reducible show wpAny _ _ (truthy (Value.str (S _) _)) _ _ _); refine truthy_S (by tb_start) ?_)
  k_with "compareOp Eq str str" => ((with_reducible show wpAny _ _ (compareOp CmpOp.Eq (Value.str (S _) _) (Value.str (S _) _)) _ _ _); refine eq_S ?_)
  k_with "compareOp NotEq str str" => ((with_reducible show wpAny _ _ (compareOp CmpOp.NotEq (Value.str (S _) _) (Value.str (S _) _)) _ _ _); refine ne_S ?_)
  k_with "subscriptTail Name Slice str ref" => (k_here; (with_reducible rename Fr _ _ _ _ => F'); (with_reducible rename News _ _ _ _ => N'); k_dflt (refine drop_S (s := ⟨_, _, _, _, _⟩) F' N' (by tb_start) ?_); intro _ _ _ _ _; (try k_sweep))
  k_with "subscriptTail Name Slice str ref" => (k_here; (with_reducible rename Fr _ _ _ _ => F'); (with_reducible rename News _ _ _ _ => N'); k_dflt (refine take_S (s := ⟨_, _, _, _, _⟩) F' N' (by tb_start) ?_); intro _ _ _ _ _; (try k_sweep))
  k_with "subscriptTail Name Slice str ref" => (k_here; (with_reducible rename Fr _ _ _ _ => F'); (with_reducible rename News _ _ _ _ => N'); k_dflt (refine mid_S (s := ⟨_, _, _, _, _⟩) F' N' (by tb_start) ?_); intro _ _ _ _ _; (try k_sweep))
  k_with "subscriptTail Name Slice str ref" => (k_here; (with_reducible rename Fr _ _ _ _ => F'); (with_reducible rename News _ _ _ _ => N'); k_dflt (refine part_S (s := ⟨_, _, _, _, _⟩) F' N' (by tb_start) ?_); intro _ _ _ _ _; (try k_sweep))
  k_with "subscriptTail Name Slice str ref" => (k_here; (with_reducible rename Fr _ _ _ _ => F'); (with_reducible rename News _ _ _ _ => N'); k_dflt (refine init_S (s := ⟨_, _, _, _, _⟩) F' N' (by tb_start) ?_); intro _ _ _ _ _; (try k_sweep))
  k_with "subscriptTail Name UnaryOp str int" => (k_here; (with_reducible show wpAny _ _ (subscriptTail _ _ (Value.str (S _) _) (Value.int _ _)) _ _ _); k_dflt (first | (refine last_S (by first | assumption | (intro hz; simp only [hz, List.length_nil] at *; lia)) (by tb_start) ?_) | (refine item_S (by first | assumption | lia | k_extra "my item") (by tb_start) ?_)))
  k_with "subscriptTail Name Name str int" => (k_here; (with_reducible show wpAny _ _ (subscriptTail _ _ (Value.str (S _) _) (Value.int _ _)) _ _ _); first | (with_reducible refine item_S (by k_dflt (first | assumption | lia | k_extra "my item")) (by k_dflt tb_start) ?_) | k_dflt (refine item_Si (by lia) (by first | lia | k_extra "my item") (by tb_start) ?_))
  k_with "subscriptTail Name Constant str int" => (k_here; (with_reducible show wpAny _ _ (subscriptTail _ _ (Value.str (S _) _) (Value.int _ _)) _ _ _); first | (with_reducible refine item_S (by k_dflt (first | assumption | lia | k_extra "my item")) (by k_dflt tb_start) ?_) | k_dflt (refine item_Si (by lia) (by first | lia | k_extra "my item") (by tb_start) ?_))
  k_with "subscriptTail Name BinOp str int" => (k_here; (with_reducible show wpAny _ _ (subscriptTail _ _ (Value.str (S _) _) (Value.int _ _)) _ _ _); first | (with_reducible refine item_S (by k_dflt (first | assumption | lia | k_extra "my item")) (by k_dflt tb_start) ?_) | k_dflt (refine item_Si (by lia) (by first | lia | k_extra "my item") (by tb_start) ?_))
  k_with "subscriptTail Attribute Name str int" => (k_here; (with_reducible show wpAny _ _ (subscriptTail _ _ (Value.str (S _) _) (Value.int _ _)) _ _ _); first | (with_reducible refine item_S (by k_dflt (first | assumption | lia | k_extra "my item")) (by k_dflt tb_start) ?_) | k_dflt (refine item_Si (by lia) (by first | lia | k_extra "my item") (by tb_start) ?_))
  k_with "subscriptTail Attribute Constant str int" => (k_here; (with_reducible show wpAny _ _ (subscriptTail _ _ (Value.str (S _) _) (Value.int _ _)) _ _ _); first | (with_reducible refine item_S (by k_dflt (first | assumption | lia | k_extra "my item")) (by k_dflt tb_start) ?_) | k_dflt (refine item_Si (by lia) (by first | lia | k_extra "my item") (by tb_start) ?_))
  k_with "subscriptTail Attribute Attribute str int" => (k_here; (with_reducible show wpAny _ _ (subscriptTail _ _ (Value.str (S _) _) (Value.int _ _)) _ _ _); first | (with_reducible refine item_S (by k_dflt (first | assumption | lia | k_extra "my item")) (by k_dflt tb_start) ?_) | k_dflt (refine item_Si (by lia) (by first | lia | k_extra "my item") (by tb_start) ?_))
  k_with "truthy ref" => (k_here; k_dflt (refine' truthy_meth ?N ?q ?_; (case N => k_asm); (case q => k_mem); k_whole))
  k_with "exec For Name Name cons nil" => (k_here; (with_reducible rename Fr _ _ _ _ => lF'); k_dflt (refine' For_invVF lF' ?k1 ?k2 ?_; (case k1 => exact rfl); (case k2 => exact rfl); k_whole))
  k_with "exec For Name Subscript cons nil" => (k_here; (with_reducible rename Fr _ _ _ _ => lF'); k_dflt (refine' For_invVF lF' ?k1 ?k2 ?_; (case k1 => exact rfl); (case k2 => exact rfl); k_whole))
  k_with "all" => (refine List.forall_mem_append.mpr ⟨?a, ?b⟩; (case a => k_all); (case b => k_all))
  k_with "rel" => (simp only [List.size_toArray]; rw [PySem.sizeLine_eq]; lia)
  k_with "call builtin:list.append" => (k_here; (with_reducible show wpAny _ _ (call (Value.builtin _) [Value.ref _, _]) _ _ _); k_dflt (refine' append_K ?k1 ?k2 ?k3 ?_ ?z; (case k1 => k_asm); (case k2 => k_asm); (case k3 => k_upd); (case z => tb_rel); k_whole); intro h' F' N'; (try simp only [List.push_toArray] at N'); (try k_sweep))
  k_with "enter" => (refine' code_def ?k1 ?k2 ?k3 ?k4 ?k5 ?kA ?kF ?kK ?k6 ?k7 ?k8 ?k9 ?kB ?_ ?c2 ?c3 ?c4 ?c5; (case kA => exact rfl); (case kF => exact rfl); (case kK => assumption); (case k1 => k_asm); (case k2 => k_asm); (case k3 => k_asm); (case k4 => k_asm); (case k5 => k_asm); (case k6 => k_is); (case k7 => k_is); (case k8 => ktr_room); (case k9 => first | exact BindsTo.of_eq rfl | exact binds_K (by k_in) rfl (by k_is) rfl rfl rfl); (case c5 => decide); (case kB => exact locs rfl); (case c2 => exact rfl); (case c3 => exact rfl); (case c4 => exact rfl); k_whole; intro g' L' h' FG' F' N' B' X' T'; (try dsimp only); (try k_lift B'); (try k_fold))
  k_with "JoinP" => (dsimp only [JoinP])
  k_with "subscriptTail" => (k_here; (with_reducible show wpAny _ _ (subscriptTail _ _ (Value.str (S _) _) (Value.int _ _)) _ _ _); first | (with_reducible refine item_S (by k_dflt (first | assumption | lia | k_extra "my item")) (by k_dflt tb_start) ?_) | k_dflt (refine item_Si (by lia) (by first | lia | k_extra "my item") (by tb_start) ?_))
  k_with "compareOp Eq str str" => ((with_reducible show wpAny _ _ (compareOp CmpOp.Eq (Value.str (S _) _) (Value.str (Str.ofString _) _)) _ _ _); k_dflt (first | refine eq_lit [13] (by decide +kernel) ?_ | refine eq_lit [10] (by decide +kernel) ?_))
  k_with "compareOp NotEq str str" => ((with_reducible show wpAny _ _ (compareOp CmpOp.NotEq (Value.str (S _) _) (Value.str (Str.ofString _) _)) _ _ _); k_dflt (first | refine ne_lit [13] (by decide +kernel) ?_ | refine ne_lit [10] (by decide +kernel) ?_))
  k_with "inplaceOp Add str str" => ((with_reducible show wpAny _ _ (inplaceOp Operator.Add (Value.str (S _) _) (Value.str (Str.ofString _) _)) _ _ _); k_dflt (refine iadd_lit [10] (by decide +kernel) (by tb_start) ?_); intro _ _)
  k_with "room" => (k_dflt ((first | apply room4 | apply room3 | apply room2 | apply room1 | apply room0 | apply roomz); assumption; exact rfl))
  k_dflt (k_extra "enter")
  (rename Fr _ _ _ _ => F1)
  (with_unfolding_all change Fr _ _ _ (fun y => List.lookup y [(Str.ofString "signs", Value.ref Dg)]) at F1)
  k_steps
  (rename Fr _ _ _ _ => lF')
  (rename News _ _ _ _ => lN')
  (obtain ⟨D9, hD9, N9⟩ := name_new lN'); subst hD9
  clear lN'
  k_dflt (refine loop_Lg (PlJ D9 T news) (by rfl) (.tail _ (.tail _ hg)) lF' N9 ⟨_, _, _, rfl, ?jne, ?jsub, PlOk.start (.head _), mix3 _ _ _ _⟩ ?_ ?_)
  case jne =>
    intro p hp
    rcases List.mem_cons.mp hp with rfl | hp
    · exact Nat.ne_of_lt (And.left (by assumption))
    · exact Nat.ne_of_lt (kst_ltOf (And.right (by assumption)) p hp)
  (case jsub => exact fun p hp => .tail _ hp)
  · clear lF' N9
    intro I i v m₁ nx h tk own hv hI hown hoff hlm hJ F' N'
    obtain ⟨ws, n2, r, rfl, hne, hsub, hP, u, vv, y, rfl⟩ := hJ
    have hi : i < T.length := by
      have := (List.getElem?_eq_some_iff.mp hv).1
      rw [sg_len hS] at this
      exact this
    obtain ⟨c, hc⟩ : ∃ c, T[i]? = some c := ⟨_, List.getElem?_eq_getElem hi⟩
    obtain ⟨t9, ht9⟩ := StrsAre.at hS (show (sg T)[i]? = some (S [c]) by rw [List.getElem?_map, hc]; rfl)
    rw [hv] at ht9
    obtain rfl := Option.some.inj ht9
    have hlen := hP.1
    obtain ⟨wi, Tl, a1, b1, t1, t2, rfl, hTl, ha, hb⟩ := hP.last
    have hne2 : ∀ p ∈ own ++ r, p.1 ≠ D9 := fun p hp => by
      rcases List.mem_append.mp hp with hp | hp
      · rcases hown p hp with e | e
        · rw [e]; exact (hoff _ (.head _)).symm
        · rw [e]; exact hne _ (hsub _ hg)
      · exact hne p hp
    have hTl9 : Tl ≠ D9 := hne _ hTl
    have hIr : ∀ p ∈ r, p.1 ≠ I := fun p hp => hoff p (.tail _ hp)
    have hID : D9 ≠ I := hoff _ (.head _)
    obtain ⟨oI, hoI⟩ := hI
    obtain ⟨r2, hr2⟩ : ∃ r2, own ++ r = r2 := ⟨_, rfl⟩
    have hoI2 : (I, oI) ∈ r2 := hr2 ▸ List.mem_append.mpr (.inl hoI)
    have hall : ∀ q ∈ (Tl, tup2 a1 b1 t1 t2) :: (D9, W.listOf (wi ++ [Value.ref Tl]).toArray n2) :: r2, q ∈ own ++ (D9, W.listOf (wi ++ [Value.ref Tl]).toArray n2) :: r := fun q hq => by
      rcases List.mem_cons.mp hq with rfl | hq
      · exact List.mem_append.mpr (.inr (.tail _ hTl))
      · rcases List.mem_cons.mp hq with rfl | hq
        · exact List.mem_append.mpr (.inr (.head _))
        · rw [← hr2] at hq
          rcases List.mem_append.mp hq with hq | hq
          · exact List.mem_append.mpr (.inl hq)
          · exact List.mem_append.mpr (.inr (.tail _ hq))
    have N2 := News.sub N' hall
    rw [hr2] at hne2
    have hsz : wi.length + 1 ≤ 1001 := by rw [List.length_append] at hlen; simp at hlen; lia
    clear N' hlm hoff
    k_with "subscriptTail" => ((with_reducible show wpAny _ _ (subscriptTail _ _ (Value.ref _) (Value.int (-1) _)) _ _ _); k_dflt (refine item_last (News.isList (by k_asm) (.tail _ (.head _))) ?_))
    k_with "call builtin:list.append" => (k_dflt (refine append_K (by k_asm) (by k_asm) (.tail (Nat.ne_of_gt (And.left (And.right (by assumption)))) (.tail hTl9 (.head hne2))) ?_ (by rw [List.size_toArray, List.length_append, List.length_singleton, PySem.sizeLine_eq]; lia)); intro h9 F9 N9; (simp only [List.push_toArray] at N9))
    (try k_fold)
    k_steps
    all_goals (
      obtain ⟨Tn, hTn, N8⟩ := name_new N9
      subst hTn
      have hTI : Tn ≠ I := Nat.ne_of_gt (kst_ltOf (And.right (And.right (by assumption : Tl < Tn ∧ D9 < Tn ∧ AllLt Tn r2))) (I, oI) hoI2)
      have hT9 : Tn ≠ D9 := Nat.ne_of_gt (And.left (And.right (by assumption : Tl < Tn ∧ D9 < Tn ∧ AllLt Tn r2)))
      refine places_step F9 N8 hr2 hID hIr hTI hT9 hne hsub hg hP hc ?_ ?_ (fun k h1 h2 h3 => (by repeat (first | with_reducible rfl | refine (if_neg (by assumption)).trans ?_ | rfl)))
      · first
        | exact plv_a ha (by assumption)
        | exact plv_b ha (by assumption)
      · first
        | exact plv_c (by assumption)
        | exact plv_d hb (by assumption))
  · clear lF' N9
    intro m₁ n₁ h tk hlm hJ F' N'
    obtain ⟨ws, n2, r, rfl, hne, hsub, hP, u, vv, y, rfl⟩ := hJ
    rw [sg_len hS] at hP
    (try dsimp only)
    (try k_fold)
    k_steps
    all_goals exact hret _ _ _ _ ⟨_, _, _, _, rfl, rfl, hsub, hP⟩ (by assumption) (by assumption)
end
section
variable {w : World} {mean : ExcName → Option Value} {mg mb : Str → Option Value} {f : Addr} {vs : List Value} {dd uu : Nat} {news : List (Addr × Obj)} {dp un : Nat} {gd : Option (List Code)} {cn : Str} {cs : Scope} {a : Addr} {ccd : Value} {cl : List (Str × Addr)} {outer : List Env} {A₀ : Around} {base h₀ : Heap} {L : Addr} {m : Str → Option Value} {s : Shared} {Q E : Value → Shared → Prop}
theorem Spec.usePl {TT : List Nat} {n : Nat}
    (H : Spec w mean mg mb f vs dd uu news (fun v nw => ∃ (D : Nat) (ws : List Value) (n2 : Nat) (r : List (Addr × Obj)), v = .ref D ∧ nw = (D, W.listOf ws.toArray n2) :: r ∧ (∀ p ∈ news, p ∈ r) ∧ PlOk TT n ws r)) (B : Below A₀ base outer h₀) (F : Fr h₀ L s.heap m) (X : (hd04.heap_39 w.params).In h₀) (N : News h₀ L s.heap news) (T : Top hd04.view_39 loose mean mg mb h₀) (hk : cs.kind = .function) (hd : dp + dd < recursionLimit) (hu : un + uu < cLine)
    (k : ∀ (D : Nat) (ws : List Value) (n2 : Nat) (r : List (Addr × Obj)) (h' : Heap) (tk' : Nat), (∀ p ∈ news, p ∈ r) → PlOk TT n ws r → s.toks ≤ tk' → Fr h₀ L h' m → News h₀ L h' ((D, W.listOf ws.toArray n2) :: r) → Q (.ref D) { s with heap := h', toks := tk' }) :
    wpAny (model PySem.Challenge.pw_te0074_04 w) (ktrTop dp un gd cn cs L a ccd cl outer) (call (.ref f) vs) Q E s :=
  Spec.use H B F X N T hk hd hu fun _ _ h' tk' hR hle F' N' => by
    obtain ⟨D, ws, n2, r, rfl, rfl, h1, h2⟩ := hR
    exact k D ws n2 r h' tk' h1 h2 hle F' N'
end
section
variable {w : World} {mean : ExcName → Option Value} {mg mb : Str → Option Value} {R : List Nat} {rest : List (Addr × Obj)} {ad : List Nat} {x : Nat} {st st' : St} {news : List (Addr × Obj)}
/-- with an object made for it -/
theorem until_new (hL : LedIs w R rest ad x st news) {D : Nat} {o : Obj} (hlt : ∀ p ∈ news, p.1 < D) {P : Nat → Bool} (hIn : InIs w (.ref D) P ((D, o) :: rest)) {b : Bool} (vs : List Value) (hv : vs = [.ref x, .ref D, .bool b] ∨ (vs = [.ref x, .ref D] ∧ b = false)) {n : Nat} {l : List Nat} (hU : Until R P b n st l st') (hn : n ≤ 50) :
    Spec w mean mg mb 121 vs 60 500 ((D, o) :: news) (fun v nw => (∃ t, v = .str (S l) t) ∧ LedIs w R rest ad x st' nw) := by
  intro dp un gd cn cs a ccd cl outer A₀ base h₀ L m s Q E B F X N T hk hd hu hret
  obtain ⟨D', rfl, n2, hL2, N2, _⟩ := LedR.push3 (o := o) hL hlt N
  refine until_gen hL2 hIn vs hv hU hn dp un gd cn cs a ccd cl outer A₀ base h₀ L m s Q E B F X N2 T hk hd hu ?_
  intro r nw h' tk' hR ht F' N'
  obtain ⟨hr, hL3⟩ := hR
  obtain ⟨n3, hL4, hsub⟩ := LedR.pop hL3
  exact hret r n3 h' tk' ⟨hr, hL4⟩ ht F' (News.sub N' hsub)
end
theorem ne_allLt {d : Addr} {l : List (Addr × Obj)} (h : AllLt d l) : ∀ p ∈ l, p.1 ≠ d := fun p hp => Nat.ne_of_lt (kst_ltOf h p hp)
theorem off_lt {d x q nl dT xT e : Nat} {rest : List (Addr × Obj)} (hA : d < x ∧ x < q ∧ q < nl ∧ nl < dT ∧ dT < xT ∧ xT < e) (h : ∀ p ∈ rest, p.1 < d) : OwnOff rest [e, xT, dT, nl, q, x, d] := fun p hp b hb => by
  have h1 : p.1 < d := h p hp
  have h2 : d ≤ b := by
    obtain ⟨h2, h3, h4, h5, h6, h7⟩ := hA
    have h3 := Nat.lt_trans h2 h3
    have h4 := Nat.lt_trans h3 h4
    have h5 := Nat.lt_trans h4 h5
    have h6 := Nat.lt_trans h5 h6
    have h7 := Nat.lt_trans h6 h7
    simp only [List.mem_cons, List.not_mem_nil, or_false] at hb
    rcases hb with h | h | h | h | h | h | h <;> subst h <;> first | exact Nat.le_refl _ | exact Nat.le_of_lt (by assumption)
  exact Nat.ne_of_lt (Nat.lt_of_lt_of_le h1 h2)
section
variable {w : World} {mean : ExcName → Option Value} {mg mb : Str → Option Value} {news : List (Addr × Obj)}
set_option maxRecDepth 100000 in
set_option maxHeartbeats 8000000 in
/-- the stream is made -/
theorem new_spec (R : List Nat) (t : Tok) (hR : R.length ≤ 1000)
    {dp un : Nat} {gd : Option (List Code)} {cn : Str} {cs : Scope} {a : Addr} {ccd : Value} {cl : List (Str × Addr)} {outer : List Env} {A₀ : Around} {base h₀ : Heap} {L : Addr} {m : Str → Option Value} {s : Shared} {Q E : Value → Shared → Prop}
    (B : Below A₀ base outer h₀) (F : Fr h₀ L s.heap m) (X : (hd04.heap_39 w.params).In h₀) (N : News h₀ L s.heap news) (T : Top hd04.view_39 loose mean mg mb h₀) (hk : cs.kind = .function)
    (hd : dp + 30 < recursionLimit) (hu : un + 200 < cLine)
    (hret : ∀ ad x n' h' tk', LedIs w R news ad x ⟨[], 0, 0, 0, 0, none, 0⟩ n' → Fr h₀ L h' m → News h₀ L h' n' → Q (.ref x) { s with heap := h', toks := tk' }) :
    wpAny (model PySem.Challenge.pw_te0074_04 w) (ktrTop dp un gd cn cs L a ccd cl outer) (call (.ref 131) [.str (S R) t]) Q E s := by
  k_with_none
  k_with "tb" => (first | assumption | (apply le3; assumption; exact rfl) | lia | (simp only [List.length_append, List.length_cons, List.length_nil, List.length_take, List.length_drop, List.length_dropLast, crs_len, partOf_len] at *; lia) | ((with_reducible refine Nat.le_trans (crlf_len _) ?_); tb_start) | ((with_reducible refine Nat.le_trans (split_len _) ?_); tb_start) | ((with_reducible refine Nat.le_trans (norm_len _) ?_); tb_start))
  k_with "call builtin:str.count" => (refine count4 (by decide +kernel) (by first | assumption | lia) ?_)
  k_with "call builtin:str.rfind" => (refine rfind4 (by decide +kernel) (by first | assumption | lia) ?_)
  k_with "call builtin:str.replace" => ((try dsimp only at *); k_dflt (refine repl_crlf_S (by decide +kernel) (by decide +kernel) (by k_ne) (by k_ne) (by k_ne) (by tb_start) ?_); intro _ _ _)
  k_with "call builtin:str.replace" => ((try dsimp only at *); k_dflt (refine repl_cr_S (by decide +kernel) (by decide +kernel) (by k_ne) (by k_ne) (by k_ne) (by tb_start) ?_); intro _ _ _)
  k_with "call builtin:len" => ((with_reducible show wpAny _ _ (call (Value.builtin "len") [Value.str (S _) _]) _ _ _); refine len_S (by tb_start) ?_)
  k_with "call builtin:ord" => ((with_reducible show wpAny _ _ (call (Value.builtin "ord") [Value.str (S _) _]) _ _ _); refine ord_S ?_)
  k_with "binaryOp Add str str" => ((with_reducible show wpAny _ _ (binaryOp Operator.Add (Value.str (S _) _) (Value.str (S _) _)) _ _ _); refine add_S (by tb_start) ?_; intro _ _)
  k_with "inplaceOp Add str str" => ((with_reducible show wpAny _ _ (inplaceOp Operator.Add (Value.str (S _) _) (Value.str (S _) _)) _ _ _); refine iadd_S (by tb_start) ?_; intro _ _)
  k_with "truthy str" => ((with_reducible show wpAny _ _ (truthy (Value.str (S _) _)) _ _ _); refine truthy_S (by tb_start) ?_)
  k_with "compareOp Eq str str" => ((with_reducible show wpAny _ _ (compareOp CmpOp.Eq (Value.str (S _) _) (Value.str (S _) _)) _ _ _); refine eq_S ?_)
  k_with "compareOp NotEq str str" => ((with_reducible show wpAny _ _ (compareOp CmpOp.NotEq (Value.str (S _) _) (Value.str (S _) _)) _ _ _); refine ne_S ?_)
  k_with "subscriptTail Name Slice str ref" => (k_here; (with_reducible rename Fr _ _ _ _ => F'); (with_reducible rename News _ _ _ _ => N'); k_dflt (refine drop_S (s := ⟨_, _, _, _, _⟩) F' N' (by tb_start) ?_); intro _ _ _ _ _; (try k_sweep))
  k_with "subscriptTail Name Slice str ref" => (k_here; (with_reducible rename Fr _ _ _ _ => F'); (with_reducible rename News _ _ _ _ => N'); k_dflt (refine take_S (s := ⟨_, _, _, _, _⟩) F' N' (by tb_start) ?_); intro _ _ _ _ _; (try k_sweep))
  k_with "subscriptTail Name Slice str ref" => (k_here; (with_reducible rename Fr _ _ _ _ => F'); (with_reducible rename News _ _ _ _ => N'); k_dflt (refine mid_S (s := ⟨_, _, _, _, _⟩) F' N' (by tb_start) ?_); intro _ _ _ _ _; (try k_sweep))
  k_with "subscriptTail Name Slice str ref" => (k_here; (with_reducible rename Fr _ _ _ _ => F'); (with_reducible rename News _ _ _ _ => N'); k_dflt (refine part_S (s := ⟨_, _, _, _, _⟩) F' N' (by tb_start) ?_); intro _ _ _ _ _; (try k_sweep))
  k_with "subscriptTail Name Slice str ref" => (k_here; (with_reducible rename Fr _ _ _ _ => F'); (with_reducible rename News _ _ _ _ => N'); k_dflt (refine init_S (s := ⟨_, _, _, _, _⟩) F' N' (by tb_start) ?_); intro _ _ _ _ _; (try k_sweep))
  k_with "subscriptTail Name UnaryOp str int" => (k_here; (with_reducible show wpAny _ _ (subscriptTail _ _ (Value.str (S _) _) (Value.int _ _)) _ _ _); k_dflt (first | (refine last_S (by first | assumption | (intro hz; simp only [hz, List.length_nil] at *; lia)) (by tb_start) ?_) | (refine item_S (by first | assumption | lia | k_extra "my item") (by tb_start) ?_)))
  k_with "subscriptTail Name Name str int" => (k_here; (with_reducible show wpAny _ _ (subscriptTail _ _ (Value.str (S _) _) (Value.int _ _)) _ _ _); first | (with_reducible refine item_S (by k_dflt (first | assumption | lia | k_extra "my item")) (by k_dflt tb_start) ?_) | k_dflt (refine item_Si (by lia) (by first | lia | k_extra "my item") (by tb_start) ?_))
  k_with "subscriptTail Name Constant str int" => (k_here; (with_reducible show wpAny _ _ (subscriptTail _ _ (Value.str (S _) _) (Value.int _ _)) _ _ _); first | (with_reducible refine item_S (by k_dflt (first | assumption | lia | k_extra "my item")) (by k_dflt tb_start) ?_) | k_dflt (refine item_Si (by lia) (by first | lia | k_extra "my item") (by tb_start) ?_))
  k_with "subscriptTail Name BinOp str int" => (k_here; (with_reducible show wpAny _ _ (subscriptTail _ _ (Value.str (S _) _) (Value.int _ _)) _ _ _); first | (with_reducible refine item_S (by k_dflt (first | assumption | lia | k_extra "my item")) (by k_dflt tb_start) ?_) | k_dflt (refine item_Si (by lia) (by first | lia | k_extra "my item") (by tb_start) ?_))
  k_with "subscriptTail Attribute Name str int" => (k_here; (with_reducible show wpAny _ _ (subscriptTail _ _ (Value.str (S _) _) (Value.int _ _)) _ _ _); first | (with_reducible refine item_S (by k_dflt (first | assumption | lia | k_extra "my item")) (by k_dflt tb_start) ?_) | k_dflt (refine item_Si (by lia) (by first | lia | k_extra "my item") (by tb_start) ?_))
  k_with "subscriptTail Attribute Constant str int" => (k_here; (with_reducible show wpAny _ _ (subscriptTail _ _ (Value.str (S _) _) (Value.int _ _)) _ _ _); first | (with_reducible refine item_S (by k_dflt (first | assumption | lia | k_extra "my item")) (by k_dflt tb_start) ?_) | k_dflt (refine item_Si (by lia) (by first | lia | k_extra "my item") (by tb_start) ?_))
  k_with "subscriptTail Attribute Attribute str int" => (k_here; (with_reducible show wpAny _ _ (subscriptTail _ _ (Value.str (S _) _) (Value.int _ _)) _ _ _); first | (with_reducible refine item_S (by k_dflt (first | assumption | lia | k_extra "my item")) (by k_dflt tb_start) ?_) | k_dflt (refine item_Si (by lia) (by first | lia | k_extra "my item") (by tb_start) ?_))
  k_with "truthy ref" => (k_here; k_dflt (refine' truthy_meth ?N ?q ?_; (case N => k_asm); (case q => k_mem); k_whole))
  k_with "exec For Name Name cons nil" => (k_here; (with_reducible rename Fr _ _ _ _ => lF'); k_dflt (refine' For_invVF lF' ?k1 ?k2 ?_; (case k1 => exact rfl); (case k2 => exact rfl); k_whole))
  k_with "exec For Name Subscript cons nil" => (k_here; (with_reducible rename Fr _ _ _ _ => lF'); k_dflt (refine' For_invVF lF' ?k1 ?k2 ?_; (case k1 => exact rfl); (case k2 => exact rfl); k_whole))
  k_with "all" => (refine List.forall_mem_append.mpr ⟨?a, ?b⟩; (case a => k_all); (case b => k_all))
  k_with "rel" => (simp only [List.size_toArray]; rw [PySem.sizeLine_eq]; lia)
  k_with "call builtin:list.append" => (k_here; (with_reducible show wpAny _ _ (call (Value.builtin _) [Value.ref _, _]) _ _ _); k_dflt (refine' append_K ?k1 ?k2 ?k3 ?_ ?z; (case k1 => k_asm); (case k2 => k_asm); (case k3 => k_upd); (case z => tb_rel); k_whole); intro h' F' N'; (try simp only [List.push_toArray] at N'); (try k_sweep))
  k_with "enter" => (refine' code_def ?k1 ?k2 ?k3 ?k4 ?k5 ?kA ?kF ?kK ?k6 ?k7 ?k8 ?k9 ?kB ?_ ?c2 ?c3 ?c4 ?c5; (case kA => exact rfl); (case kF => exact rfl); (case kK => assumption); (case k1 => k_asm); (case k2 => k_asm); (case k3 => k_asm); (case k4 => k_asm); (case k5 => k_asm); (case k6 => k_is); (case k7 => k_is); (case k8 => ktr_room); (case k9 => first | exact BindsTo.of_eq rfl | exact binds_K (by k_in) rfl (by k_is) rfl rfl rfl); (case c5 => decide); (case kB => exact locs rfl); (case c2 => exact rfl); (case c3 => exact rfl); (case c4 => exact rfl); k_whole; intro g' L' h' FG' F' N' B' X' T'; (try dsimp only); (try k_lift B'); (try k_fold))
  k_with "JoinP" => (dsimp only [JoinP])
  k_with "subscriptTail" => (k_here; (with_reducible show wpAny _ _ (subscriptTail _ _ (Value.str (S _) _) (Value.int _ _)) _ _ _); first | (with_reducible refine item_S (by k_dflt (first | assumption | lia | k_extra "my item")) (by k_dflt tb_start) ?_) | k_dflt (refine item_Si (by lia) (by first | lia | k_extra "my item") (by tb_start) ?_))
  k_with "compareOp Eq str str" => ((with_reducible show wpAny _ _ (compareOp CmpOp.Eq (Value.str (S _) _) (Value.str (Str.ofString _) _)) _ _ _); k_dflt (first | refine eq_lit [13] (by decide +kernel) ?_ | refine eq_lit [10] (by decide +kernel) ?_))
  k_with "compareOp NotEq str str" => ((with_reducible show wpAny _ _ (compareOp CmpOp.NotEq (Value.str (S _) _) (Value.str (Str.ofString _) _)) _ _ _); k_dflt (first | refine ne_lit [13] (by decide +kernel) ?_ | refine ne_lit [10] (by decide +kernel) ?_))
  k_with "inplaceOp Add str str" => ((with_reducible show wpAny _ _ (inplaceOp Operator.Add (Value.str (S _) _) (Value.str (Str.ofString _) _)) _ _ _); k_dflt (refine iadd_lit [10] (by decide +kernel) (by tb_start) ?_); intro _ _)
  k_with "room" => (k_dflt ((first | apply room4 | apply room3 | apply room2 | apply room1 | apply room0 | apply roomz); assumption; exact rfl))
  k_with "setAttr ref" => (k_here; k_dflt (refine' set_dict ?sk1 ?sk2 ?sk3 ?sk4 ?sk5 ?sk6 ?sk7 ?sk8 ?sk9 ?sk10 ?sk11 ?sk12 ?sk13 ?_; (case sk1 => k_asm); (case sk2 => k_asm); (case sk3 => k_asm); (case sk4 => k_inst); (case sk5 => exact rfl); (case sk6 => k_is); (case sk7 => k_is); (case sk8 => k_is); (case sk9 => k_is); (case sk10 => k_get); (case sk11 => k_put); (case sk12 => k_upd); (case sk13 => exact Nat.le_of_ble_eq_true rfl); k_whole); intro h' F' N'; (try dsimp only at N'); (try k_sweep))
  k_with "ne" => (refine neN ?_; first | exact Nat.ne_of_gt (by assumption) | exact Nat.ne_of_gt (And.left (by assumption)) | exact Nat.ne_of_gt (And.left (And.right (by assumption))) | exact Nat.ne_of_gt (And.left (And.right (And.right (by assumption)))) | exact Nat.ne_of_gt (And.left (And.right (And.right (And.right (by assumption))))) | exact Nat.ne_of_gt (And.left (And.right (And.right (And.right (And.right (by assumption)))))) | exact Nat.ne_of_lt (by assumption) | exact Nat.ne_of_lt (And.left (by assumption)) | exact Nat.ne_of_lt (And.left (And.right (by assumption))) | exact Nat.ne_of_lt (And.left (And.right (And.right (by assumption)))) | exact Nat.ne_of_lt (And.left (And.right (And.right (And.right (by assumption))))) | exact Nat.ne_of_lt (And.left (And.right (And.right (And.right (And.right (by assumption)))))))
  k_with "setAttr ref" => ((with_reducible show wpAny _ _ (setAttr (Value.ref _) _ (Value.str (Str.ofString "") _)) _ _ _); rw [of_empty])
  k_with "all" => (first | exact ne_allLt (by assumption) | exact ne_allLt (And.right (by assumption)) | exact ne_allLt (And.right (And.right (by assumption))) | exact ne_allLt (And.right (And.right (And.right (by assumption)))) | exact ne_allLt (And.right (And.right (And.right (And.right (by assumption))))) | exact ne_allLt (And.right (And.right (And.right (And.right (And.right (by assumption)))))))
  k_dflt (refine' call_cls ?k1 ?k2 ?k3 ?k4 ?k5 ?k6 ?_; (case k1 => k_asm); (case k2 => k_asm); (case k3 => k_asm); (case k4 => k_is); (case k5 => k_is); (case k6 => k_is); k_whole; intro x' d' h' F' N' l1 l2; (try k_lt l1); (try k_lt2 l2); (try k_sweep); k_extra "enter")
  k_steps
  · have hA : ∀ {d x q nl dT xT e : Nat}, (d < x) → (x < q) → (q < nl) → (nl < dT) → (dT < xT) → (xT < e) → d < x ∧ x < q ∧ q < nl ∧ nl < dT ∧ dT < xT ∧ xT < e := fun a b c d e f => ⟨a, b, c, d, e, f⟩
    have hA2 := hA l2 (And.left (by assumption)) (And.left (by assumption)) (And.left (by assumption)) (by assumption) (And.left (by assumption))
    exact hret _ _ _ _ _ (.mk (ev := []) hA2 (off_lt hA2 l1) .nil .none) (by assumption) (by assumption)
end
def lawDef : Option Stmt := PySem.Challenge.pw_te0074_04.main.body.getLast?
def lawB : List Stmt := match lawDef with | some (.FunctionDef _ _ b _ _ _ _ _ _ _) => b | _ => []
def lawSc : Scope := match lawDef with | some (.FunctionDef _ _ _ _ _ _ sc _ _ _) => sc | _ => default
def forB : List Stmt := match lawB.drop 10 with | .For _ _ b _ _ :: _ => b | _ => []
abbrev base4 (x Dp Dg : Addr) (R : List Nat) (tx : Tok) (vt vs : Value) : Str → Option Value := fun y => List.lookup y [(Str.ofString "stream", Value.ref x), (Str.ofString "places", Value.ref Dp), (Str.ofString "signs", Value.ref Dg), (Str.ofString "text", Value.str (S R) tx), (Str.ofString "numbers", vt), (Str.ofString "script", vs)]
def FrC (x Dp Dg : Addr) (R : List Nat) (tx : Tok) (vt vs : Value) (k : Int) (wv : Option Value) (st : St) (p : Nat) (fh : Bool) (m' : Str → Option Value) : Prop :=
  (∃ t, m' (Str.ofString "n") = some (.int k t)) ∧ m' (Str.ofString "way") = wv ∧ m' (Str.ofString "fresh") = some (.bool fh) ∧ (∃ t, m' (Str.ofString "place") = some (.int (p : Int) t)) ∧ (∃ t, m' (Str.ofString "until") = some (.int ((norm (R.take st.cut)).length : Int) t)) ∧ (∃ t, m' (Str.ofString "start") = some (.int (st.cut : Int) t)) ∧ (∃ t, m' (Str.ofString "taken") = some (.int (st.place : Int) t)) ∧ (∀ z, z ≠ Str.ofString "n" → z ≠ Str.ofString "way" → z ≠ Str.ofString "due" → z ≠ Str.ofString "inside" → z ≠ Str.ofString "end" → z ≠ Str.ofString "fresh" → z ≠ Str.ofString "place" → z ≠ Str.ofString "until" → z ≠ Str.ofString "start" → z ≠ Str.ofString "taken" → m' z = base4 x Dp Dg R tx vt vs z)
inductive FrCL (x Dp Dg : Addr) (R : List Nat) (tx : Tok) (vt vs : Value) (k : Int) (wv : Option Value) (st : St) (p : Nat) (fh : Bool) (m' : Str → Option Value) : Prop
  | mk (t0 t6 t7 t8 t9 : Tok) (u2 u3 u4 : Option Value) (hm : m' = fun y => if y = Str.ofString "n" then some (.int k t0) else if y = Str.ofString "way" then wv else if y = Str.ofString "due" then u2 else if y = Str.ofString "inside" then u3 else if y = Str.ofString "end" then u4 else if y = Str.ofString "fresh" then some (.bool fh) else if y = Str.ofString "place" then some (.int (p : Int) t6) else if y = Str.ofString "until" then some (.int ((norm (R.take st.cut)).length : Int) t7) else if y = Str.ofString "start" then some (.int (st.cut : Int) t8) else if y = Str.ofString "taken" then some (.int (st.place : Int) t9) else base4 x Dp Dg R tx vt vs y)
theorem FrC.lit {x Dp Dg : Addr} {R : List Nat} {tx : Tok} {vt vs : Value} {k : Int} {wv : Option Value} {st : St} {p : Nat} {fh : Bool} {m' : Str → Option Value} (h : FrC x Dp Dg R tx vt vs k wv st p fh m') : FrCL x Dp Dg R tx vt vs k wv st p fh m' := by
  obtain ⟨⟨t0, h0⟩, h1, h5, ⟨t6, h6⟩, ⟨t7, h7⟩, ⟨t8, h8⟩, ⟨t9, h9⟩, hb⟩ := h
  refine ⟨t0, t6, t7, t8, t9, m' (Str.ofString "due"), m' (Str.ofString "inside"), m' (Str.ofString "end"), ?_⟩
  funext z
  exact lit1 h0 fun a0 => lit1 h1 fun a1 => lit1 rfl fun a2 => lit1 rfl fun a3 => lit1 rfl fun a4 => lit1 h5 fun a5 => lit1 h6 fun a6 => lit1 h7 fun a7 => lit1 h8 fun a8 => lit1 h9 fun a9 => hb z a0 a1 a2 a3 a4 a5 a6 a7 a8 a9
def FrK (x Dp Dg : Addr) (R : List Nat) (tx : Tok) (vt vs : Value) (st : St) (p : Nat) (fh : Bool) (m' : Str → Option Value) : Prop :=
  m' (Str.ofString "fresh") = some (.bool fh) ∧ (∃ t, m' (Str.ofString "place") = some (.int (p : Int) t)) ∧ (∃ t, m' (Str.ofString "until") = some (.int ((norm (R.take st.cut)).length : Int) t)) ∧ (∃ t, m' (Str.ofString "start") = some (.int (st.cut : Int) t)) ∧ (∃ t, m' (Str.ofString "taken") = some (.int (st.place : Int) t)) ∧ (∀ z, z ≠ Str.ofString "n" → z ≠ Str.ofString "way" → z ≠ Str.ofString "due" → z ≠ Str.ofString "inside" → z ≠ Str.ofString "end" → z ≠ Str.ofString "fresh" → z ≠ Str.ofString "place" → z ≠ Str.ofString "until" → z ≠ Str.ofString "start" → z ≠ Str.ofString "taken" → m' z = base4 x Dp Dg R tx vt vs z)
inductive FrKL (x Dp Dg : Addr) (R : List Nat) (tx : Tok) (vt vs : Value) (st : St) (p : Nat) (fh : Bool) (m' : Str → Option Value) : Prop
  | mk (t6 t7 t8 t9 : Tok) (u0 u1 u2 u3 u4 : Option Value) (hm : m' = fun y => if y = Str.ofString "n" then u0 else if y = Str.ofString "way" then u1 else if y = Str.ofString "due" then u2 else if y = Str.ofString "inside" then u3 else if y = Str.ofString "end" then u4 else if y = Str.ofString "fresh" then some (.bool fh) else if y = Str.ofString "place" then some (.int (p : Int) t6) else if y = Str.ofString "until" then some (.int ((norm (R.take st.cut)).length : Int) t7) else if y = Str.ofString "start" then some (.int (st.cut : Int) t8) else if y = Str.ofString "taken" then some (.int (st.place : Int) t9) else base4 x Dp Dg R tx vt vs y)
theorem FrK.lit {x Dp Dg : Addr} {R : List Nat} {tx : Tok} {vt vs : Value} {st : St} {p : Nat} {fh : Bool} {m' : Str → Option Value} (h : FrK x Dp Dg R tx vt vs st p fh m') : FrKL x Dp Dg R tx vt vs st p fh m' := by
  obtain ⟨h5, ⟨t6, h6⟩, ⟨t7, h7⟩, ⟨t8, h8⟩, ⟨t9, h9⟩, hb⟩ := h
  refine ⟨t6, t7, t8, t9, m' (Str.ofString "n"), m' (Str.ofString "way"), m' (Str.ofString "due"), m' (Str.ofString "inside"), m' (Str.ofString "end"), ?_⟩
  funext z
  exact lit1 rfl fun a0 => lit1 rfl fun a1 => lit1 rfl fun a2 => lit1 rfl fun a3 => lit1 rfl fun a4 => lit1 h5 fun a5 => lit1 h6 fun a6 => lit1 h7 fun a7 => lit1 h8 fun a8 => lit1 h9 fun a9 => hb z a0 a1 a2 a3 a4 a5 a6 a7 a8 a9
section
variable {w : World} {mean : ExcName → Option Value} {mg mb : Str → Option Value} {R : List Nat} {rest : List (Addr × Obj)} {ad : List Nat} {x : Nat} {st : St} {news : List (Addr × Obj)} {Dg Dp ng np : Nat} {gs ws : List Value}
theorem bne_lt {p n : Nat} : (decide (p < n) != decide ((p : Int) < (n : Int))) = false := by simp [Int.ofNat_lt]
set_option maxRecDepth 100000 in
set_option maxHeartbeats 4000000 in
theorem b0 (hL : LedIs w R rest ad x st news) (hg : (Dg, W.listOf gs.toArray ng) ∈ rest) (hS : StrsAre gs (sg (norm R))) (hp : (Dp, W.listOf ws.toArray np) ∈ rest) (hP : PlOk (norm R) (norm R).length ws rest) (hr : Raw R) (hR : R.length ≤ 32) {p : Nat} (hi : InvG True R st p)
    (bd : Stmt) (tl : List Stmt) (sc : Scope) (hb : forB.drop 0 = bd :: tl) (hs : lawSc = sc) (k : Int) {t0 t6 t7 t8 t9 tx : Tok} {u1 u2 u3 u4 : Option Value} {vt vs : Value} {fh : Bool} (hf : fh = true → 0 < p ∧ 0 < st.off)
    (dp un : Nat) (gd : Option (List Code)) (a : Addr) (ccd : Value) (cl : List (Str × Addr)) (outer : List Env) (A₀ : Around) (base h₀ : Heap) (L : Addr) (s : Shared) (Q : Flow → Shared → Prop) (E : Value → Shared → Prop)
    (B : Below A₀ base outer h₀) (F : Fr h₀ L s.heap (fun y => if y = Str.ofString "n" then some (.int k t0) else if y = Str.ofString "way" then u1 else if y = Str.ofString "due" then u2 else if y = Str.ofString "inside" then u3 else if y = Str.ofString "end" then u4 else if y = Str.ofString "fresh" then some (.bool fh) else if y = Str.ofString "place" then some (.int (p : Int) t6) else if y = Str.ofString "until" then some (.int ((norm (R.take st.cut)).length : Int) t7) else if y = Str.ofString "start" then some (.int (st.cut : Int) t8) else if y = Str.ofString "taken" then some (.int (st.place : Int) t9) else base4 x Dp Dg R tx vt vs y))
    (X : (hd04.heap_39 w.params).In h₀) (N : News h₀ L s.heap news) (T : Top hd04.view_39 loose mean mg mb h₀) (hd : dp + 100 < recursionLimit) (hu : un + 800 < cLine) (hE : PassesOwn (model PySem.Challenge.pw_te0074_04 w) (ktrTop dp un gd (Str.ofString "law") sc L a ccd cl outer) (envOf (Str.ofString "law") sc L a ccd) E)
     (hret : ∀ h' tk' nw' (t1 : Tok) m', FrC x Dp Dg R tx vt vs k (some (.int (k.fdiv 48) t1)) st p fh m' → LedIs w R rest ad x st nw' → Fr h₀ L h' m' → News h₀ L h' nw' → Q .next { s with heap := h', toks := tk' }) :
    wpAny (model PySem.Challenge.pw_te0074_04 w) (ktrTop dp un gd (Str.ofString "law") sc L a ccd cl outer) (exec bd (envOf (Str.ofString "law") sc L a ccd)) Q E s := by
  conv at hb => lhs; whnf
  conv at hs => lhs; whnf
  cases hb
  subst hs
  unfold LedIs at hL
  k_with_none
  k_with "tb" => (first | assumption | (apply le3; assumption; exact rfl) | lia | (simp only [List.length_append, List.length_cons, List.length_nil, List.length_take, List.length_drop, List.length_dropLast, crs_len, partOf_len] at *; lia) | ((with_reducible refine Nat.le_trans (crlf_len _) ?_); tb_start) | ((with_reducible refine Nat.le_trans (split_len _) ?_); tb_start) | ((with_reducible refine Nat.le_trans (norm_len _) ?_); tb_start))
  k_with "call builtin:str.count" => (refine count4 (by decide +kernel) (by first | assumption | lia) ?_)
  k_with "call builtin:str.rfind" => (refine rfind4 (by decide +kernel) (by first | assumption | lia) ?_)
  k_with "call builtin:str.replace" => ((try dsimp only at *); k_dflt (refine repl_crlf_S (by decide +kernel) (by decide +kernel) (by k_ne) (by k_ne) (by k_ne) (by tb_start) ?_); intro _ _ _)
  k_with "call builtin:str.replace" => ((try dsimp only at *); k_dflt (refine repl_cr_S (by decide +kernel) (by decide +kernel) (by k_ne) (by k_ne) (by k_ne) (by tb_start) ?_); intro _ _ _)
  k_with "call builtin:len" => ((with_reducible show wpAny _ _ (call (Value.builtin "len") [Value.str (S _) _]) _ _ _); refine len_S (by tb_start) ?_)
  k_with "call builtin:ord" => ((with_reducible show wpAny _ _ (call (Value.builtin "ord") [Value.str (S _) _]) _ _ _); refine ord_S ?_)
  k_with "binaryOp Add str str" => ((with_reducible show wpAny _ _ (binaryOp Operator.Add (Value.str (S _) _) (Value.str (S _) _)) _ _ _); refine add_S (by tb_start) ?_; intro _ _)
  k_with "inplaceOp Add str str" => ((with_reducible show wpAny _ _ (inplaceOp Operator.Add (Value.str (S _) _) (Value.str (S _) _)) _ _ _); refine iadd_S (by tb_start) ?_; intro _ _)
  k_with "truthy str" => ((with_reducible show wpAny _ _ (truthy (Value.str (S _) _)) _ _ _); refine truthy_S (by tb_start) ?_)
  k_with "compareOp Eq str str" => ((with_reducible show wpAny _ _ (compareOp CmpOp.Eq (Value.str (S _) _) (Value.str (S _) _)) _ _ _); refine eq_S ?_)
  k_with "compareOp NotEq str str" => ((with_reducible show wpAny _ _ (compareOp CmpOp.NotEq (Value.str (S _) _) (Value.str (S _) _)) _ _ _); refine ne_S ?_)
  k_with "subscriptTail Name Slice str ref" => (k_here; (with_reducible rename Fr _ _ _ _ => F'); (with_reducible rename News _ _ _ _ => N'); k_dflt (refine drop_S (s := ⟨_, _, _, _, _⟩) F' N' (by tb_start) ?_); intro _ _ _ _ _; (try k_sweep))
  k_with "subscriptTail Name Slice str ref" => (k_here; (with_reducible rename Fr _ _ _ _ => F'); (with_reducible rename News _ _ _ _ => N'); k_dflt (refine take_S (s := ⟨_, _, _, _, _⟩) F' N' (by tb_start) ?_); intro _ _ _ _ _; (try k_sweep))
  k_with "subscriptTail Name Slice str ref" => (k_here; (with_reducible rename Fr _ _ _ _ => F'); (with_reducible rename News _ _ _ _ => N'); k_dflt (refine mid_S (s := ⟨_, _, _, _, _⟩) F' N' (by tb_start) ?_); intro _ _ _ _ _; (try k_sweep))
  k_with "subscriptTail Name Slice str ref" => (k_here; (with_reducible rename Fr _ _ _ _ => F'); (with_reducible rename News _ _ _ _ => N'); k_dflt (refine part_S (s := ⟨_, _, _, _, _⟩) F' N' (by tb_start) ?_); intro _ _ _ _ _; (try k_sweep))
  k_with "subscriptTail Name Slice str ref" => (k_here; (with_reducible rename Fr _ _ _ _ => F'); (with_reducible rename News _ _ _ _ => N'); k_dflt (refine init_S (s := ⟨_, _, _, _, _⟩) F' N' (by tb_start) ?_); intro _ _ _ _ _; (try k_sweep))
  k_with "subscriptTail Name UnaryOp str int" => (k_here; (with_reducible show wpAny _ _ (subscriptTail _ _ (Value.str (S _) _) (Value.int _ _)) _ _ _); k_dflt (first | (refine last_S (by first | assumption | (intro hz; simp only [hz, List.length_nil] at *; lia)) (by tb_start) ?_) | (refine item_S (by first | assumption | lia | k_extra "my item") (by tb_start) ?_)))
  k_with "subscriptTail Name Name str int" => (k_here; (with_reducible show wpAny _ _ (subscriptTail _ _ (Value.str (S _) _) (Value.int _ _)) _ _ _); first | (with_reducible refine item_S (by k_dflt (first | assumption | lia | k_extra "my item")) (by k_dflt tb_start) ?_) | k_dflt (refine item_Si (by lia) (by first | lia | k_extra "my item") (by tb_start) ?_))
  k_with "subscriptTail Name Constant str int" => (k_here; (with_reducible show wpAny _ _ (subscriptTail _ _ (Value.str (S _) _) (Value.int _ _)) _ _ _); first | (with_reducible refine item_S (by k_dflt (first | assumption | lia | k_extra "my item")) (by k_dflt tb_start) ?_) | k_dflt (refine item_Si (by lia) (by first | lia | k_extra "my item") (by tb_start) ?_))
  k_with "subscriptTail Name BinOp str int" => (k_here; (with_reducible show wpAny _ _ (subscriptTail _ _ (Value.str (S _) _) (Value.int _ _)) _ _ _); first | (with_reducible refine item_S (by k_dflt (first | assumption | lia | k_extra "my item")) (by k_dflt tb_start) ?_) | k_dflt (refine item_Si (by lia) (by first | lia | k_extra "my item") (by tb_start) ?_))
  k_with "subscriptTail Attribute Name str int" => (k_here; (with_reducible show wpAny _ _ (subscriptTail _ _ (Value.str (S _) _) (Value.int _ _)) _ _ _); first | (with_reducible refine item_S (by k_dflt (first | assumption | lia | k_extra "my item")) (by k_dflt tb_start) ?_) | k_dflt (refine item_Si (by lia) (by first | lia | k_extra "my item") (by tb_start) ?_))
  k_with "subscriptTail Attribute Constant str int" => (k_here; (with_reducible show wpAny _ _ (subscriptTail _ _ (Value.str (S _) _) (Value.int _ _)) _ _ _); first | (with_reducible refine item_S (by k_dflt (first | assumption | lia | k_extra "my item")) (by k_dflt tb_start) ?_) | k_dflt (refine item_Si (by lia) (by first | lia | k_extra "my item") (by tb_start) ?_))
  k_with "subscriptTail Attribute Attribute str int" => (k_here; (with_reducible show wpAny _ _ (subscriptTail _ _ (Value.str (S _) _) (Value.int _ _)) _ _ _); first | (with_reducible refine item_S (by k_dflt (first | assumption | lia | k_extra "my item")) (by k_dflt tb_start) ?_) | k_dflt (refine item_Si (by lia) (by first | lia | k_extra "my item") (by tb_start) ?_))
  k_with "truthy ref" => (k_here; k_dflt (refine' truthy_meth ?N ?q ?_; (case N => k_asm); (case q => k_mem); k_whole))
  k_with "exec For Name Name cons nil" => (k_here; (with_reducible rename Fr _ _ _ _ => lF'); k_dflt (refine' For_invVF lF' ?k1 ?k2 ?_; (case k1 => exact rfl); (case k2 => exact rfl); k_whole))
  k_with "exec For Name Subscript cons nil" => (k_here; (with_reducible rename Fr _ _ _ _ => lF'); k_dflt (refine' For_invVF lF' ?k1 ?k2 ?_; (case k1 => exact rfl); (case k2 => exact rfl); k_whole))
  k_with "all" => (refine List.forall_mem_append.mpr ⟨?a, ?b⟩; (case a => k_all); (case b => k_all))
  k_with "rel" => (simp only [List.size_toArray]; rw [PySem.sizeLine_eq]; lia)
  k_with "call builtin:list.append" => (k_here; (with_reducible show wpAny _ _ (call (Value.builtin _) [Value.ref _, _]) _ _ _); k_dflt (refine' append_K ?k1 ?k2 ?k3 ?_ ?z; (case k1 => k_asm); (case k2 => k_asm); (case k3 => k_upd); (case z => tb_rel); k_whole); intro h' F' N'; (try simp only [List.push_toArray] at N'); (try k_sweep))
  k_with "enter" => (refine' code_def ?k1 ?k2 ?k3 ?k4 ?k5 ?kA ?kF ?kK ?k6 ?k7 ?k8 ?k9 ?kB ?_ ?c2 ?c3 ?c4 ?c5; (case kA => exact rfl); (case kF => exact rfl); (case kK => assumption); (case k1 => k_asm); (case k2 => k_asm); (case k3 => k_asm); (case k4 => k_asm); (case k5 => k_asm); (case k6 => k_is); (case k7 => k_is); (case k8 => ktr_room); (case k9 => first | exact BindsTo.of_eq rfl | exact binds_K (by k_in) rfl (by k_is) rfl rfl rfl); (case c5 => decide); (case kB => exact locs rfl); (case c2 => exact rfl); (case c3 => exact rfl); (case c4 => exact rfl); k_whole; intro g' L' h' FG' F' N' B' X' T'; (try dsimp only); (try k_lift B'); (try k_fold))
  k_with "JoinP" => (dsimp only [JoinP])
  k_with "subscriptTail" => (k_here; (with_reducible show wpAny _ _ (subscriptTail _ _ (Value.str (S _) _) (Value.int _ _)) _ _ _); first | (with_reducible refine item_S (by k_dflt (first | assumption | lia | k_extra "my item")) (by k_dflt tb_start) ?_) | k_dflt (refine item_Si (by lia) (by first | lia | k_extra "my item") (by tb_start) ?_))
  k_with "compareOp Eq str str" => ((with_reducible show wpAny _ _ (compareOp CmpOp.Eq (Value.str (S _) _) (Value.str (Str.ofString _) _)) _ _ _); k_dflt (first | refine eq_lit [13] (by decide +kernel) ?_ | refine eq_lit [10] (by decide +kernel) ?_))
  k_with "compareOp NotEq str str" => ((with_reducible show wpAny _ _ (compareOp CmpOp.NotEq (Value.str (S _) _) (Value.str (Str.ofString _) _)) _ _ _); k_dflt (first | refine ne_lit [13] (by decide +kernel) ?_ | refine ne_lit [10] (by decide +kernel) ?_))
  k_with "inplaceOp Add str str" => ((with_reducible show wpAny _ _ (inplaceOp Operator.Add (Value.str (S _) _) (Value.str (Str.ofString _) _)) _ _ _); k_dflt (refine iadd_lit [10] (by decide +kernel) (by tb_start) ?_); intro _ _)
  k_with "room" => (k_dflt ((first | apply room4 | apply room3 | apply room2 | apply room1 | apply room0 | apply roomz); assumption; exact rfl))
  k_with "getAttr ref" => ((with_reducible show wpAny _ _ (getAttr (Value.ref _) (Str.ofString "chunk") _) _ _ _); k_dflt (refine g_chunk (by assumption) (by k_asm) (by k_asm) ?N ?_; (case N => first | k_asm | exact News.tl (by k_asm) | exact News.tl (News.tl (by k_asm)) | exact News.tl (News.tl (News.tl (by k_asm))))); intro _)
  k_with "getAttr ref" => ((with_reducible show wpAny _ _ (getAttr (Value.ref _) (Str.ofString "chunkSize") _) _ _ _); k_dflt (refine g_size (by assumption) (by k_asm) (by k_asm) ?N ?_; (case N => first | k_asm | exact News.tl (by k_asm) | exact News.tl (News.tl (by k_asm)) | exact News.tl (News.tl (News.tl (by k_asm))))); intro _)
  k_with "getAttr ref" => ((with_reducible show wpAny _ _ (getAttr (Value.ref _) (Str.ofString "chunkOffset") _) _ _ _); k_dflt (refine g_off (by assumption) (by k_asm) (by k_asm) ?N ?_; (case N => first | k_asm | exact News.tl (by k_asm) | exact News.tl (News.tl (by k_asm)) | exact News.tl (News.tl (News.tl (by k_asm))))); intro _)
  k_with "getAttr ref" => ((with_reducible show wpAny _ _ (getAttr (Value.ref _) (Str.ofString "prevNumLines") _) _ _ _); k_dflt (refine g_pl (by assumption) (by k_asm) (by k_asm) ?N ?_; (case N => first | k_asm | exact News.tl (by k_asm) | exact News.tl (News.tl (by k_asm)) | exact News.tl (News.tl (News.tl (by k_asm))))); intro _)
  k_with "getAttr ref" => ((with_reducible show wpAny _ _ (getAttr (Value.ref _) (Str.ofString "prevNumCols") _) _ _ _); k_dflt (refine g_pc (by assumption) (by k_asm) (by k_asm) ?N ?_; (case N => first | k_asm | exact News.tl (by k_asm) | exact News.tl (News.tl (by k_asm)) | exact News.tl (News.tl (News.tl (by k_asm))))); intro _)
  k_with "getAttr ref" => ((with_reducible show wpAny _ _ (getAttr (Value.ref _) (Str.ofString "errors") _) _ _ _); k_dflt (refine g_errors (by assumption) (by k_asm) (by k_asm) ?N ?_; (case N => first | k_asm | exact News.tl (by k_asm) | exact News.tl (News.tl (by k_asm)) | exact News.tl (News.tl (News.tl (by k_asm))))); intro _ hE1)
  k_with "getAttr ref" => ((with_reducible show wpAny _ _ (getAttr (Value.ref _) (Str.ofString "dataStream") _) _ _ _); k_dflt (refine g_stream (by assumption) (by k_asm) (by k_asm) ?N ?_; (case N => first | k_asm | exact News.tl (by k_asm) | exact News.tl (News.tl (by k_asm)) | exact News.tl (News.tl (News.tl (by k_asm))))); intro _ hT1)
  k_with "getAttr ref" => ((with_reducible show wpAny _ _ (getAttr (Value.ref _) (Str.ofString "_bufferedCharacter") _) _ _ _); k_dflt (refine g_buf (by assumption) (by k_asm) (by k_asm) ?N ?_; (case N => first | k_asm | exact News.tl (by k_asm) | exact News.tl (News.tl (by k_asm)) | exact News.tl (News.tl (News.tl (by k_asm))))); intro _ hB1; (try cases hB1))
  k_with "getAttr ref" => ((with_reducible show wpAny _ _ (getAttr (Value.ref _) (Str.ofString "reportCharacterErrors") _) _ _ _); k_dflt (refine g_rep (by assumption) (by k_asm) (by k_asm) ?N ?_; (case N => first | k_asm | exact News.tl (by k_asm) | exact News.tl (News.tl (by k_asm)) | exact News.tl (News.tl (News.tl (by k_asm))))); intro _ hR1)
  k_with "getAttr ref" => ((with_reducible show wpAny _ _ (getAttr (Value.ref _) (Str.ofString "_defaultChunkSize") _) _ _ _); k_dflt (refine g_dflt (by assumption) (by k_asm) (by k_asm) ?N ?_; (case N => first | k_asm | exact News.tl (by k_asm) | exact News.tl (News.tl (by k_asm)) | exact News.tl (News.tl (News.tl (by k_asm))))); intro _)
  k_with "getAttr ref" => ((with_reducible show wpAny _ _ (getAttr (Value.ref _) (Str.ofString "text") _) _ _ _); k_dflt (refine g_text (by assumption) (by assumption) (by k_asm) (by k_asm) ?N ?_; (case N => first | k_asm | exact News.tl (by k_asm) | exact News.tl (News.tl (by k_asm)) | exact News.tl (News.tl (News.tl (by k_asm))))); intro _)
  k_with "getAttr ref" => ((with_reducible show wpAny _ _ (getAttr (Value.ref _) (Str.ofString "place") _) _ _ _); k_dflt (refine g_place (by assumption) (by assumption) (by k_asm) (by k_asm) ?N ?_; (case N => first | k_asm | exact News.tl (by k_asm) | exact News.tl (News.tl (by k_asm)) | exact News.tl (News.tl (News.tl (by k_asm))))); intro _)
  k_with "setAttr ref" => ((with_reducible show wpAny _ _ (setAttr (Value.ref _) (Str.ofString "chunk") _) _ _ _); (with_reducible rename LedR _ _ _ _ _ _ _ _ _ _ _ _ _ _ => hLo); k_dflt (refine s_chunk hLo (by k_asm) (by k_asm) ?N ?_; (case N => first | k_asm | exact News.tl (by k_asm) | exact News.tl (News.tl (by k_asm)) | exact News.tl (News.tl (News.tl (by k_asm))))); intro h' n' F' N' hL'; (try k_sweep); clear hLo)
  k_with "setAttr ref" => ((with_reducible show wpAny _ _ (setAttr (Value.ref _) (Str.ofString "chunk") (Value.str (Str.ofString "") _)) _ _ _); (with_reducible rename LedR _ _ _ _ _ _ _ _ _ _ _ _ _ _ => hLo); k_dflt (refine s_chunk0 hLo (by k_asm) (by k_asm) ?N ?_; (case N => first | k_asm | exact News.tl (by k_asm) | exact News.tl (News.tl (by k_asm)) | exact News.tl (News.tl (News.tl (by k_asm))))); intro h' n' F' N' hL'; (try k_sweep); clear hLo)
  k_with "setAttr ref" => ((with_reducible show wpAny _ _ (setAttr (Value.ref _) (Str.ofString "chunkSize") _) _ _ _); (with_reducible rename LedR _ _ _ _ _ _ _ _ _ _ _ _ _ _ => hLo); k_dflt (refine s_size hLo (by k_asm) (by k_asm) ?N ?_; (case N => first | k_asm | exact News.tl (by k_asm) | exact News.tl (News.tl (by k_asm)) | exact News.tl (News.tl (News.tl (by k_asm))))); intro h' n' F' N' hL'; (try k_sweep); clear hLo)
  k_with "setAttr ref" => ((with_reducible show wpAny _ _ (setAttr (Value.ref _) (Str.ofString "chunkOffset") _) _ _ _); (with_reducible rename LedR _ _ _ _ _ _ _ _ _ _ _ _ _ _ => hLo); k_dflt (refine s_off hLo (by k_asm) (by k_asm) ?N ?_; (case N => first | k_asm | exact News.tl (by k_asm) | exact News.tl (News.tl (by k_asm)) | exact News.tl (News.tl (News.tl (by k_asm))))); intro h' n' F' N' hL'; (try k_sweep); clear hLo)
  k_with "setAttr ref" => ((with_reducible show wpAny _ _ (setAttr (Value.ref _) (Str.ofString "prevNumLines") _) _ _ _); (with_reducible rename LedR _ _ _ _ _ _ _ _ _ _ _ _ _ _ => hLo); k_dflt (refine s_pl hLo (by k_asm) (by k_asm) ?N ?_; (case N => first | k_asm | exact News.tl (by k_asm) | exact News.tl (News.tl (by k_asm)) | exact News.tl (News.tl (News.tl (by k_asm))))); intro h' n' F' N' hL'; (try k_sweep); clear hLo)
  k_with "setAttr ref" => ((with_reducible show wpAny _ _ (setAttr (Value.ref _) (Str.ofString "prevNumCols") _) _ _ _); (with_reducible rename LedR _ _ _ _ _ _ _ _ _ _ _ _ _ _ => hLo); k_dflt (refine s_pc hLo (by k_asm) (by k_asm) ?N ?_; (case N => first | k_asm | exact News.tl (by k_asm) | exact News.tl (News.tl (by k_asm)) | exact News.tl (News.tl (News.tl (by k_asm))))); intro h' n' F' N' hL'; (try k_sweep); clear hLo)
  k_with "setAttr ref" => ((with_reducible show wpAny _ _ (setAttr (Value.ref _) (Str.ofString "_bufferedCharacter") _) _ _ _); (with_reducible rename LedR _ _ _ _ _ _ _ _ _ _ _ _ _ _ => hLo); k_dflt (refine s_buf (by first | exact BufIs.none | exact BufIs.some | assumption) hLo (by k_asm) (by k_asm) ?N ?_; (case N => first | k_asm | exact News.tl (by k_asm) | exact News.tl (News.tl (by k_asm)) | exact News.tl (News.tl (News.tl (by k_asm))))); intro h' n' F' N' hL'; (try k_sweep); clear hLo)
  k_with "setAttr ref" => ((with_reducible show wpAny _ _ (setAttr (Value.ref _) (Str.ofString "place") _) _ _ _); (with_reducible rename LedR _ _ _ _ _ _ _ _ _ _ _ _ _ _ => hLo); k_dflt (refine s_place hLo (by assumption) (by k_asm) (by k_asm) ?N ?_; (case N => first | k_asm | exact News.tl (by k_asm) | exact News.tl (News.tl (by k_asm)) | exact News.tl (News.tl (News.tl (by k_asm))))); intro h' n' F' N' hL'; (try k_sweep); clear hLo)
  k_with "getMethod ref" => ((with_reducible show wpAny _ _ (getMethod (Value.ref _) (Str.ofString "_position") _) _ _ _); k_dflt (refine m_pos_ (by assumption) (by k_asm) (by k_asm) ?N ?_; (case N => first | k_asm | exact News.tl (by k_asm) | exact News.tl (News.tl (by k_asm)) | exact News.tl (News.tl (News.tl (by k_asm))))))
  k_with "getMethod ref" => ((with_reducible show wpAny _ _ (getMethod (Value.ref _) (Str.ofString "position") _) _ _ _); k_dflt (refine m_pos (by assumption) (by k_asm) (by k_asm) ?N ?_; (case N => first | k_asm | exact News.tl (by k_asm) | exact News.tl (News.tl (by k_asm)) | exact News.tl (News.tl (News.tl (by k_asm))))))
  k_with "getMethod ref" => ((with_reducible show wpAny _ _ (getMethod (Value.ref _) (Str.ofString "char") _) _ _ _); k_dflt (refine m_char (by assumption) (by k_asm) (by k_asm) ?N ?_; (case N => first | k_asm | exact News.tl (by k_asm) | exact News.tl (News.tl (by k_asm)) | exact News.tl (News.tl (News.tl (by k_asm))))))
  k_with "getMethod ref" => ((with_reducible show wpAny _ _ (getMethod (Value.ref _) (Str.ofString "readChunk") _) _ _ _); k_dflt (refine m_chunk (by assumption) (by k_asm) (by k_asm) ?N ?_; (case N => first | k_asm | exact News.tl (by k_asm) | exact News.tl (News.tl (by k_asm)) | exact News.tl (News.tl (News.tl (by k_asm))))))
  k_with "getMethod ref" => ((with_reducible show wpAny _ _ (getMethod (Value.ref _) (Str.ofString "unget") _) _ _ _); k_dflt (refine m_unget (by assumption) (by k_asm) (by k_asm) ?N ?_; (case N => first | k_asm | exact News.tl (by k_asm) | exact News.tl (News.tl (by k_asm)) | exact News.tl (News.tl (News.tl (by k_asm))))))
  k_with "getMethod ref" => ((with_reducible show wpAny _ _ (getMethod (Value.ref _) (Str.ofString "charsUntil") _) _ _ _); k_dflt (refine m_until (by assumption) (by k_asm) (by k_asm) ?N ?_; (case N => first | k_asm | exact News.tl (by k_asm) | exact News.tl (News.tl (by k_asm)) | exact News.tl (News.tl (News.tl (by k_asm))))))
  k_with "getMethod ref" => ((with_reducible show wpAny _ _ (getMethod (Value.ref _) (Str.ofString "read") _) _ _ _); k_dflt (refine m_read (by assumption) (by assumption) (by k_asm) (by k_asm) ?N ?_; (case N => first | k_asm | exact News.tl (by k_asm) | exact News.tl (News.tl (by k_asm)) | exact News.tl (News.tl (News.tl (by k_asm))))))
  k_with "getMethod ref" => ((with_reducible show wpAny _ _ (getMethod (Value.ref _) (Str.ofString "reportCharacterErrors") _) _ _ _); k_dflt (refine m_rep (by assumption) (by k_asm) (by k_asm) ?N ?_; (case N => first | k_asm | exact News.tl (by k_asm) | exact News.tl (News.tl (by k_asm)) | exact News.tl (News.tl (News.tl (by k_asm))))); intro _ hR1)
  k_with "getMethod ref" => ((with_reducible show wpAny _ _ (getMethod (Value.ref _) (Str.ofString "append") _) _ _ _); k_dflt (refine m_append (by assumption) (by assumption) (by k_asm) (by k_asm) ?N ?_; (case N => first | k_asm | exact News.tl (by k_asm) | exact News.tl (News.tl (by k_asm)) | exact News.tl (News.tl (News.tl (by k_asm))))))
  k_with "call builtin:list.append" => ((with_reducible rename LedR _ _ _ _ _ _ _ _ _ _ _ _ _ _ => hLo); k_dflt (refine app_err hLo (by assumption) (by k_asm) (by k_asm) ?N (by lia) ?_; (case N => first | k_asm | exact News.tl (by k_asm) | exact News.tl (News.tl (by k_asm)) | exact News.tl (News.tl (News.tl (by k_asm))))); intro h' n' F' N' hL'; (try k_sweep); clear hLo)
  k_steps
  · rename Fr _ _ _ _ => F9
    exact hret _ _ _ _ _ ⟨⟨_, rfl⟩, rfl, rfl, ⟨_, rfl⟩, ⟨_, rfl⟩, ⟨_, rfl⟩, ⟨_, rfl⟩, fun z a0 a1 a2 a3 a4 a5 a6 a7 a8 a9 => (by repeat (first | with_reducible rfl | refine (if_neg (by assumption)).trans ?_ | rfl))⟩ hL F9 (by first | assumption | exact News.tl (by assumption) | exact News.tl (News.tl (by assumption)) | exact News.tl (News.tl (News.tl (by assumption))))
set_option maxRecDepth 100000 in
set_option maxHeartbeats 4000000 in
theorem b3 (hL : LedIs w R rest ad x st news) (hg : (Dg, W.listOf gs.toArray ng) ∈ rest) (hS : StrsAre gs (sg (norm R))) (hp : (Dp, W.listOf ws.toArray np) ∈ rest) (hP : PlOk (norm R) (norm R).length ws rest) (hr : Raw R) (hR : R.length ≤ 32) {p : Nat} (hi : InvG True R st p)
    (bd : Stmt) (tl : List Stmt) (sc : Scope) (hb : forB.drop 3 = bd :: tl) (hs : lawSc = sc) (k : Int) {t0 t1 t6 t7 t8 t9 tx : Tok} {u2 u3 u4 : Option Value} {vt vs : Value} {fh : Bool} (hf : fh = true → 0 < p ∧ 0 < st.off)
    (dp un : Nat) (gd : Option (List Code)) (a : Addr) (ccd : Value) (cl : List (Str × Addr)) (outer : List Env) (A₀ : Around) (base h₀ : Heap) (L : Addr) (s : Shared) (Q : Flow → Shared → Prop) (E : Value → Shared → Prop)
    (B : Below A₀ base outer h₀) (F : Fr h₀ L s.heap (fun y => if y = Str.ofString "n" then some (.int k t0) else if y = Str.ofString "way" then some (.int (k.fdiv 48) t1) else if y = Str.ofString "due" then u2 else if y = Str.ofString "inside" then u3 else if y = Str.ofString "end" then u4 else if y = Str.ofString "fresh" then some (.bool fh) else if y = Str.ofString "place" then some (.int (p : Int) t6) else if y = Str.ofString "until" then some (.int ((norm (R.take st.cut)).length : Int) t7) else if y = Str.ofString "start" then some (.int (st.cut : Int) t8) else if y = Str.ofString "taken" then some (.int (st.place : Int) t9) else base4 x Dp Dg R tx vt vs y))
    (X : (hd04.heap_39 w.params).In h₀) (N : News h₀ L s.heap news) (T : Top hd04.view_39 loose mean mg mb h₀) (hd : dp + 100 < recursionLimit) (hu : un + 800 < cLine) (hE : PassesOwn (model PySem.Challenge.pw_te0074_04 w) (ktrTop dp un gd (Str.ofString "law") sc L a ccd cl outer) (envOf (Str.ofString "law") sc L a ccd) E)
     (hret : ∀ h' tk' nw', LedIs w R rest ad x st nw' → Fr h₀ L h' (fun y => if y = Str.ofString "n" then some (.int k t0) else if y = Str.ofString "way" then some (.int (k.fdiv 48) t1) else if y = Str.ofString "due" then u2 else if y = Str.ofString "inside" then u3 else if y = Str.ofString "end" then u4 else if y = Str.ofString "fresh" then some (.bool fh) else if y = Str.ofString "place" then some (.int (p : Int) t6) else if y = Str.ofString "until" then some (.int ((norm (R.take st.cut)).length : Int) t7) else if y = Str.ofString "start" then some (.int (st.cut : Int) t8) else if y = Str.ofString "taken" then some (.int (st.place : Int) t9) else base4 x Dp Dg R tx vt vs y) → News h₀ L h' nw' → Q .next { s with heap := h', toks := tk' }) :
    wpAny (model PySem.Challenge.pw_te0074_04 w) (ktrTop dp un gd (Str.ofString "law") sc L a ccd cl outer) (exec bd (envOf (Str.ofString "law") sc L a ccd)) Q E s := by
  conv at hb => lhs; whnf
  conv at hs => lhs; whnf
  cases hb
  subst hs
  have hple := invG_le hi
  have hnl := norm_len R
  have hsp := invG_spot hi
  obtain ⟨o1, o2, o3, o4, o5⟩ := invG_ok hi hr.len
  unfold LedIs at hL
  k_with_none
  k_with "tb" => (first | assumption | (apply le3; assumption; exact rfl) | lia | (simp only [List.length_append, List.length_cons, List.length_nil, List.length_take, List.length_drop, List.length_dropLast, crs_len, partOf_len] at *; lia) | ((with_reducible refine Nat.le_trans (crlf_len _) ?_); tb_start) | ((with_reducible refine Nat.le_trans (split_len _) ?_); tb_start) | ((with_reducible refine Nat.le_trans (norm_len _) ?_); tb_start))
  k_with "call builtin:str.count" => (refine count4 (by decide +kernel) (by first | assumption | lia) ?_)
  k_with "call builtin:str.rfind" => (refine rfind4 (by decide +kernel) (by first | assumption | lia) ?_)
  k_with "call builtin:str.replace" => ((try dsimp only at *); k_dflt (refine repl_crlf_S (by decide +kernel) (by decide +kernel) (by k_ne) (by k_ne) (by k_ne) (by tb_start) ?_); intro _ _ _)
  k_with "call builtin:str.replace" => ((try dsimp only at *); k_dflt (refine repl_cr_S (by decide +kernel) (by decide +kernel) (by k_ne) (by k_ne) (by k_ne) (by tb_start) ?_); intro _ _ _)
  k_with "call builtin:len" => ((with_reducible show wpAny _ _ (call (Value.builtin "len") [Value.str (S _) _]) _ _ _); refine len_S (by tb_start) ?_)
  k_with "call builtin:ord" => ((with_reducible show wpAny _ _ (call (Value.builtin "ord") [Value.str (S _) _]) _ _ _); refine ord_S ?_)
  k_with "binaryOp Add str str" => ((with_reducible show wpAny _ _ (binaryOp Operator.Add (Value.str (S _) _) (Value.str (S _) _)) _ _ _); refine add_S (by tb_start) ?_; intro _ _)
  k_with "inplaceOp Add str str" => ((with_reducible show wpAny _ _ (inplaceOp Operator.Add (Value.str (S _) _) (Value.str (S _) _)) _ _ _); refine iadd_S (by tb_start) ?_; intro _ _)
  k_with "truthy str" => ((with_reducible show wpAny _ _ (truthy (Value.str (S _) _)) _ _ _); refine truthy_S (by tb_start) ?_)
  k_with "compareOp Eq str str" => ((with_reducible show wpAny _ _ (compareOp CmpOp.Eq (Value.str (S _) _) (Value.str (S _) _)) _ _ _); refine eq_S ?_)
  k_with "compareOp NotEq str str" => ((with_reducible show wpAny _ _ (compareOp CmpOp.NotEq (Value.str (S _) _) (Value.str (S _) _)) _ _ _); refine ne_S ?_)
  k_with "subscriptTail Name Slice str ref" => (k_here; (with_reducible rename Fr _ _ _ _ => F'); (with_reducible rename News _ _ _ _ => N'); k_dflt (refine drop_S (s := ⟨_, _, _, _, _⟩) F' N' (by tb_start) ?_); intro _ _ _ _ _; (try k_sweep))
  k_with "subscriptTail Name Slice str ref" => (k_here; (with_reducible rename Fr _ _ _ _ => F'); (with_reducible rename News _ _ _ _ => N'); k_dflt (refine take_S (s := ⟨_, _, _, _, _⟩) F' N' (by tb_start) ?_); intro _ _ _ _ _; (try k_sweep))
  k_with "subscriptTail Name Slice str ref" => (k_here; (with_reducible rename Fr _ _ _ _ => F'); (with_reducible rename News _ _ _ _ => N'); k_dflt (refine mid_S (s := ⟨_, _, _, _, _⟩) F' N' (by tb_start) ?_); intro _ _ _ _ _; (try k_sweep))
  k_with "subscriptTail Name Slice str ref" => (k_here; (with_reducible rename Fr _ _ _ _ => F'); (with_reducible rename News _ _ _ _ => N'); k_dflt (refine part_S (s := ⟨_, _, _, _, _⟩) F' N' (by tb_start) ?_); intro _ _ _ _ _; (try k_sweep))
  k_with "subscriptTail Name Slice str ref" => (k_here; (with_reducible rename Fr _ _ _ _ => F'); (with_reducible rename News _ _ _ _ => N'); k_dflt (refine init_S (s := ⟨_, _, _, _, _⟩) F' N' (by tb_start) ?_); intro _ _ _ _ _; (try k_sweep))
  k_with "subscriptTail Name UnaryOp str int" => (k_here; (with_reducible show wpAny _ _ (subscriptTail _ _ (Value.str (S _) _) (Value.int _ _)) _ _ _); k_dflt (first | (refine last_S (by first | assumption | (intro hz; simp only [hz, List.length_nil] at *; lia)) (by tb_start) ?_) | (refine item_S (by first | assumption | lia | k_extra "my item") (by tb_start) ?_)))
  k_with "subscriptTail Name Name str int" => (k_here; (with_reducible show wpAny _ _ (subscriptTail _ _ (Value.str (S _) _) (Value.int _ _)) _ _ _); first | (with_reducible refine item_S (by k_dflt (first | assumption | lia | k_extra "my item")) (by k_dflt tb_start) ?_) | k_dflt (refine item_Si (by lia) (by first | lia | k_extra "my item") (by tb_start) ?_))
  k_with "subscriptTail Name Constant str int" => (k_here; (with_reducible show wpAny _ _ (subscriptTail _ _ (Value.str (S _) _) (Value.int _ _)) _ _ _); first | (with_reducible refine item_S (by k_dflt (first | assumption | lia | k_extra "my item")) (by k_dflt tb_start) ?_) | k_dflt (refine item_Si (by lia) (by first | lia | k_extra "my item") (by tb_start) ?_))
  k_with "subscriptTail Name BinOp str int" => (k_here; (with_reducible show wpAny _ _ (subscriptTail _ _ (Value.str (S _) _) (Value.int _ _)) _ _ _); first | (with_reducible refine item_S (by k_dflt (first | assumption | lia | k_extra "my item")) (by k_dflt tb_start) ?_) | k_dflt (refine item_Si (by lia) (by first | lia | k_extra "my item") (by tb_start) ?_))
  k_with "subscriptTail Attribute Name str int" => (k_here; (with_reducible show wpAny _ _ (subscriptTail _ _ (Value.str (S _) _) (Value.int _ _)) _ _ _); first | (with_reducible refine item_S (by k_dflt (first | assumption | lia | k_extra "my item")) (by k_dflt tb_start) ?_) | k_dflt (refine item_Si (by lia) (by first | lia | k_extra "my item") (by tb_start) ?_))
  k_with "subscriptTail Attribute Constant str int" => (k_here; (with_reducible show wpAny _ _ (subscriptTail _ _ (Value.str (S _) _) (Value.int _ _)) _ _ _); first | (with_reducible refine item_S (by k_dflt (first | assumption | lia | k_extra "my item")) (by k_dflt tb_start) ?_) | k_dflt (refine item_Si (by lia) (by first | lia | k_extra "my item") (by tb_start) ?_))
  k_with "subscriptTail Attribute Attribute str int" => (k_here; (with_reducible show wpAny _ _ (subscriptTail _ _ (Value.str (S _) _) (Value.int _ _)) _ _ _); first | (with_reducible refine item_S (by k_dflt (first | assumption | lia | k_extra "my item")) (by k_dflt tb_start) ?_) | k_dflt (refine item_Si (by lia) (by first | lia | k_extra "my item") (by tb_start) ?_))
  k_with "truthy ref" => (k_here; k_dflt (refine' truthy_meth ?N ?q ?_; (case N => k_asm); (case q => k_mem); k_whole))
  k_with "exec For Name Name cons nil" => (k_here; (with_reducible rename Fr _ _ _ _ => lF'); k_dflt (refine' For_invVF lF' ?k1 ?k2 ?_; (case k1 => exact rfl); (case k2 => exact rfl); k_whole))
  k_with "exec For Name Subscript cons nil" => (k_here; (with_reducible rename Fr _ _ _ _ => lF'); k_dflt (refine' For_invVF lF' ?k1 ?k2 ?_; (case k1 => exact rfl); (case k2 => exact rfl); k_whole))
  k_with "all" => (refine List.forall_mem_append.mpr ⟨?a, ?b⟩; (case a => k_all); (case b => k_all))
  k_with "rel" => (simp only [List.size_toArray]; rw [PySem.sizeLine_eq]; lia)
  k_with "call builtin:list.append" => (k_here; (with_reducible show wpAny _ _ (call (Value.builtin _) [Value.ref _, _]) _ _ _); k_dflt (refine' append_K ?k1 ?k2 ?k3 ?_ ?z; (case k1 => k_asm); (case k2 => k_asm); (case k3 => k_upd); (case z => tb_rel); k_whole); intro h' F' N'; (try simp only [List.push_toArray] at N'); (try k_sweep))
  k_with "enter" => (refine' code_def ?k1 ?k2 ?k3 ?k4 ?k5 ?kA ?kF ?kK ?k6 ?k7 ?k8 ?k9 ?kB ?_ ?c2 ?c3 ?c4 ?c5; (case kA => exact rfl); (case kF => exact rfl); (case kK => assumption); (case k1 => k_asm); (case k2 => k_asm); (case k3 => k_asm); (case k4 => k_asm); (case k5 => k_asm); (case k6 => k_is); (case k7 => k_is); (case k8 => ktr_room); (case k9 => first | exact BindsTo.of_eq rfl | exact binds_K (by k_in) rfl (by k_is) rfl rfl rfl); (case c5 => decide); (case kB => exact locs rfl); (case c2 => exact rfl); (case c3 => exact rfl); (case c4 => exact rfl); k_whole; intro g' L' h' FG' F' N' B' X' T'; (try dsimp only); (try k_lift B'); (try k_fold))
  k_with "JoinP" => (dsimp only [JoinP])
  k_with "subscriptTail" => (k_here; (with_reducible show wpAny _ _ (subscriptTail _ _ (Value.str (S _) _) (Value.int _ _)) _ _ _); first | (with_reducible refine item_S (by k_dflt (first | assumption | lia | k_extra "my item")) (by k_dflt tb_start) ?_) | k_dflt (refine item_Si (by lia) (by first | lia | k_extra "my item") (by tb_start) ?_))
  k_with "compareOp Eq str str" => ((with_reducible show wpAny _ _ (compareOp CmpOp.Eq (Value.str (S _) _) (Value.str (Str.ofString _) _)) _ _ _); k_dflt (first | refine eq_lit [13] (by decide +kernel) ?_ | refine eq_lit [10] (by decide +kernel) ?_))
  k_with "compareOp NotEq str str" => ((with_reducible show wpAny _ _ (compareOp CmpOp.NotEq (Value.str (S _) _) (Value.str (Str.ofString _) _)) _ _ _); k_dflt (first | refine ne_lit [13] (by decide +kernel) ?_ | refine ne_lit [10] (by decide +kernel) ?_))
  k_with "inplaceOp Add str str" => ((with_reducible show wpAny _ _ (inplaceOp Operator.Add (Value.str (S _) _) (Value.str (Str.ofString _) _)) _ _ _); k_dflt (refine iadd_lit [10] (by decide +kernel) (by tb_start) ?_); intro _ _)
  k_with "room" => (k_dflt ((first | apply room4 | apply room3 | apply room2 | apply room1 | apply room0 | apply roomz); assumption; exact rfl))
  k_with "getAttr ref" => ((with_reducible show wpAny _ _ (getAttr (Value.ref _) (Str.ofString "chunk") _) _ _ _); k_dflt (refine g_chunk (by assumption) (by k_asm) (by k_asm) ?N ?_; (case N => first | k_asm | exact News.tl (by k_asm) | exact News.tl (News.tl (by k_asm)) | exact News.tl (News.tl (News.tl (by k_asm))))); intro _)
  k_with "getAttr ref" => ((with_reducible show wpAny _ _ (getAttr (Value.ref _) (Str.ofString "chunkSize") _) _ _ _); k_dflt (refine g_size (by assumption) (by k_asm) (by k_asm) ?N ?_; (case N => first | k_asm | exact News.tl (by k_asm) | exact News.tl (News.tl (by k_asm)) | exact News.tl (News.tl (News.tl (by k_asm))))); intro _)
  k_with "getAttr ref" => ((with_reducible show wpAny _ _ (getAttr (Value.ref _) (Str.ofString "chunkOffset") _) _ _ _); k_dflt (refine g_off (by assumption) (by k_asm) (by k_asm) ?N ?_; (case N => first | k_asm | exact News.tl (by k_asm) | exact News.tl (News.tl (by k_asm)) | exact News.tl (News.tl (News.tl (by k_asm))))); intro _)
  k_with "getAttr ref" => ((with_reducible show wpAny _ _ (getAttr (Value.ref _) (Str.ofString "prevNumLines") _) _ _ _); k_dflt (refine g_pl (by assumption) (by k_asm) (by k_asm) ?N ?_; (case N => first | k_asm | exact News.tl (by k_asm) | exact News.tl (News.tl (by k_asm)) | exact News.tl (News.tl (News.tl (by k_asm))))); intro _)
  k_with "getAttr ref" => ((with_reducible show wpAny _ _ (getAttr (Value.ref _) (Str.ofString "prevNumCols") _) _ _ _); k_dflt (refine g_pc (by assumption) (by k_asm) (by k_asm) ?N ?_; (case N => first | k_asm | exact News.tl (by k_asm) | exact News.tl (News.tl (by k_asm)) | exact News.tl (News.tl (News.tl (by k_asm))))); intro _)
  k_with "getAttr ref" => ((with_reducible show wpAny _ _ (getAttr (Value.ref _) (Str.ofString "errors") _) _ _ _); k_dflt (refine g_errors (by assumption) (by k_asm) (by k_asm) ?N ?_; (case N => first | k_asm | exact News.tl (by k_asm) | exact News.tl (News.tl (by k_asm)) | exact News.tl (News.tl (News.tl (by k_asm))))); intro _ hE1)
  k_with "getAttr ref" => ((with_reducible show wpAny _ _ (getAttr (Value.ref _) (Str.ofString "dataStream") _) _ _ _); k_dflt (refine g_stream (by assumption) (by k_asm) (by k_asm) ?N ?_; (case N => first | k_asm | exact News.tl (by k_asm) | exact News.tl (News.tl (by k_asm)) | exact News.tl (News.tl (News.tl (by k_asm))))); intro _ hT1)
  k_with "getAttr ref" => ((with_reducible show wpAny _ _ (getAttr (Value.ref _) (Str.ofString "_bufferedCharacter") _) _ _ _); k_dflt (refine g_buf (by assumption) (by k_asm) (by k_asm) ?N ?_; (case N => first | k_asm | exact News.tl (by k_asm) | exact News.tl (News.tl (by k_asm)) | exact News.tl (News.tl (News.tl (by k_asm))))); intro _ hB1; (try cases hB1))
  k_with "getAttr ref" => ((with_reducible show wpAny _ _ (getAttr (Value.ref _) (Str.ofString "reportCharacterErrors") _) _ _ _); k_dflt (refine g_rep (by assumption) (by k_asm) (by k_asm) ?N ?_; (case N => first | k_asm | exact News.tl (by k_asm) | exact News.tl (News.tl (by k_asm)) | exact News.tl (News.tl (News.tl (by k_asm))))); intro _ hR1)
  k_with "getAttr ref" => ((with_reducible show wpAny _ _ (getAttr (Value.ref _) (Str.ofString "_defaultChunkSize") _) _ _ _); k_dflt (refine g_dflt (by assumption) (by k_asm) (by k_asm) ?N ?_; (case N => first | k_asm | exact News.tl (by k_asm) | exact News.tl (News.tl (by k_asm)) | exact News.tl (News.tl (News.tl (by k_asm))))); intro _)
  k_with "getAttr ref" => ((with_reducible show wpAny _ _ (getAttr (Value.ref _) (Str.ofString "text") _) _ _ _); k_dflt (refine g_text (by assumption) (by assumption) (by k_asm) (by k_asm) ?N ?_; (case N => first | k_asm | exact News.tl (by k_asm) | exact News.tl (News.tl (by k_asm)) | exact News.tl (News.tl (News.tl (by k_asm))))); intro _)
  k_with "getAttr ref" => ((with_reducible show wpAny _ _ (getAttr (Value.ref _) (Str.ofString "place") _) _ _ _); k_dflt (refine g_place (by assumption) (by assumption) (by k_asm) (by k_asm) ?N ?_; (case N => first | k_asm | exact News.tl (by k_asm) | exact News.tl (News.tl (by k_asm)) | exact News.tl (News.tl (News.tl (by k_asm))))); intro _)
  k_with "setAttr ref" => ((with_reducible show wpAny _ _ (setAttr (Value.ref _) (Str.ofString "chunk") _) _ _ _); (with_reducible rename LedR _ _ _ _ _ _ _ _ _ _ _ _ _ _ => hLo); k_dflt (refine s_chunk hLo (by k_asm) (by k_asm) ?N ?_; (case N => first | k_asm | exact News.tl (by k_asm) | exact News.tl (News.tl (by k_asm)) | exact News.tl (News.tl (News.tl (by k_asm))))); intro h' n' F' N' hL'; (try k_sweep); clear hLo)
  k_with "setAttr ref" => ((with_reducible show wpAny _ _ (setAttr (Value.ref _) (Str.ofString "chunk") (Value.str (Str.ofString "") _)) _ _ _); (with_reducible rename LedR _ _ _ _ _ _ _ _ _ _ _ _ _ _ => hLo); k_dflt (refine s_chunk0 hLo (by k_asm) (by k_asm) ?N ?_; (case N => first | k_asm | exact News.tl (by k_asm) | exact News.tl (News.tl (by k_asm)) | exact News.tl (News.tl (News.tl (by k_asm))))); intro h' n' F' N' hL'; (try k_sweep); clear hLo)
  k_with "setAttr ref" => ((with_reducible show wpAny _ _ (setAttr (Value.ref _) (Str.ofString "chunkSize") _) _ _ _); (with_reducible rename LedR _ _ _ _ _ _ _ _ _ _ _ _ _ _ => hLo); k_dflt (refine s_size hLo (by k_asm) (by k_asm) ?N ?_; (case N => first | k_asm | exact News.tl (by k_asm) | exact News.tl (News.tl (by k_asm)) | exact News.tl (News.tl (News.tl (by k_asm))))); intro h' n' F' N' hL'; (try k_sweep); clear hLo)
  k_with "setAttr ref" => ((with_reducible show wpAny _ _ (setAttr (Value.ref _) (Str.ofString "chunkOffset") _) _ _ _); (with_reducible rename LedR _ _ _ _ _ _ _ _ _ _ _ _ _ _ => hLo); k_dflt (refine s_off hLo (by k_asm) (by k_asm) ?N ?_; (case N => first | k_asm | exact News.tl (by k_asm) | exact News.tl (News.tl (by k_asm)) | exact News.tl (News.tl (News.tl (by k_asm))))); intro h' n' F' N' hL'; (try k_sweep); clear hLo)
  k_with "setAttr ref" => ((with_reducible show wpAny _ _ (setAttr (Value.ref _) (Str.ofString "prevNumLines") _) _ _ _); (with_reducible rename LedR _ _ _ _ _ _ _ _ _ _ _ _ _ _ => hLo); k_dflt (refine s_pl hLo (by k_asm) (by k_asm) ?N ?_; (case N => first | k_asm | exact News.tl (by k_asm) | exact News.tl (News.tl (by k_asm)) | exact News.tl (News.tl (News.tl (by k_asm))))); intro h' n' F' N' hL'; (try k_sweep); clear hLo)
  k_with "setAttr ref" => ((with_reducible show wpAny _ _ (setAttr (Value.ref _) (Str.ofString "prevNumCols") _) _ _ _); (with_reducible rename LedR _ _ _ _ _ _ _ _ _ _ _ _ _ _ => hLo); k_dflt (refine s_pc hLo (by k_asm) (by k_asm) ?N ?_; (case N => first | k_asm | exact News.tl (by k_asm) | exact News.tl (News.tl (by k_asm)) | exact News.tl (News.tl (News.tl (by k_asm))))); intro h' n' F' N' hL'; (try k_sweep); clear hLo)
  k_with "setAttr ref" => ((with_reducible show wpAny _ _ (setAttr (Value.ref _) (Str.ofString "_bufferedCharacter") _) _ _ _); (with_reducible rename LedR _ _ _ _ _ _ _ _ _ _ _ _ _ _ => hLo); k_dflt (refine s_buf (by first | exact BufIs.none | exact BufIs.some | assumption) hLo (by k_asm) (by k_asm) ?N ?_; (case N => first | k_asm | exact News.tl (by k_asm) | exact News.tl (News.tl (by k_asm)) | exact News.tl (News.tl (News.tl (by k_asm))))); intro h' n' F' N' hL'; (try k_sweep); clear hLo)
  k_with "setAttr ref" => ((with_reducible show wpAny _ _ (setAttr (Value.ref _) (Str.ofString "place") _) _ _ _); (with_reducible rename LedR _ _ _ _ _ _ _ _ _ _ _ _ _ _ => hLo); k_dflt (refine s_place hLo (by assumption) (by k_asm) (by k_asm) ?N ?_; (case N => first | k_asm | exact News.tl (by k_asm) | exact News.tl (News.tl (by k_asm)) | exact News.tl (News.tl (News.tl (by k_asm))))); intro h' n' F' N' hL'; (try k_sweep); clear hLo)
  k_with "getMethod ref" => ((with_reducible show wpAny _ _ (getMethod (Value.ref _) (Str.ofString "_position") _) _ _ _); k_dflt (refine m_pos_ (by assumption) (by k_asm) (by k_asm) ?N ?_; (case N => first | k_asm | exact News.tl (by k_asm) | exact News.tl (News.tl (by k_asm)) | exact News.tl (News.tl (News.tl (by k_asm))))))
  k_with "getMethod ref" => ((with_reducible show wpAny _ _ (getMethod (Value.ref _) (Str.ofString "position") _) _ _ _); k_dflt (refine m_pos (by assumption) (by k_asm) (by k_asm) ?N ?_; (case N => first | k_asm | exact News.tl (by k_asm) | exact News.tl (News.tl (by k_asm)) | exact News.tl (News.tl (News.tl (by k_asm))))))
  k_with "getMethod ref" => ((with_reducible show wpAny _ _ (getMethod (Value.ref _) (Str.ofString "char") _) _ _ _); k_dflt (refine m_char (by assumption) (by k_asm) (by k_asm) ?N ?_; (case N => first | k_asm | exact News.tl (by k_asm) | exact News.tl (News.tl (by k_asm)) | exact News.tl (News.tl (News.tl (by k_asm))))))
  k_with "getMethod ref" => ((with_reducible show wpAny _ _ (getMethod (Value.ref _) (Str.ofString "readChunk") _) _ _ _); k_dflt (refine m_chunk (by assumption) (by k_asm) (by k_asm) ?N ?_; (case N => first | k_asm | exact News.tl (by k_asm) | exact News.tl (News.tl (by k_asm)) | exact News.tl (News.tl (News.tl (by k_asm))))))
  k_with "getMethod ref" => ((with_reducible show wpAny _ _ (getMethod (Value.ref _) (Str.ofString "unget") _) _ _ _); k_dflt (refine m_unget (by assumption) (by k_asm) (by k_asm) ?N ?_; (case N => first | k_asm | exact News.tl (by k_asm) | exact News.tl (News.tl (by k_asm)) | exact News.tl (News.tl (News.tl (by k_asm))))))
  k_with "getMethod ref" => ((with_reducible show wpAny _ _ (getMethod (Value.ref _) (Str.ofString "charsUntil") _) _ _ _); k_dflt (refine m_until (by assumption) (by k_asm) (by k_asm) ?N ?_; (case N => first | k_asm | exact News.tl (by k_asm) | exact News.tl (News.tl (by k_asm)) | exact News.tl (News.tl (News.tl (by k_asm))))))
  k_with "getMethod ref" => ((with_reducible show wpAny _ _ (getMethod (Value.ref _) (Str.ofString "read") _) _ _ _); k_dflt (refine m_read (by assumption) (by assumption) (by k_asm) (by k_asm) ?N ?_; (case N => first | k_asm | exact News.tl (by k_asm) | exact News.tl (News.tl (by k_asm)) | exact News.tl (News.tl (News.tl (by k_asm))))))
  k_with "getMethod ref" => ((with_reducible show wpAny _ _ (getMethod (Value.ref _) (Str.ofString "reportCharacterErrors") _) _ _ _); k_dflt (refine m_rep (by assumption) (by k_asm) (by k_asm) ?N ?_; (case N => first | k_asm | exact News.tl (by k_asm) | exact News.tl (News.tl (by k_asm)) | exact News.tl (News.tl (News.tl (by k_asm))))); intro _ hR1)
  k_with "getMethod ref" => ((with_reducible show wpAny _ _ (getMethod (Value.ref _) (Str.ofString "append") _) _ _ _); k_dflt (refine m_append (by assumption) (by assumption) (by k_asm) (by k_asm) ?N ?_; (case N => first | k_asm | exact News.tl (by k_asm) | exact News.tl (News.tl (by k_asm)) | exact News.tl (News.tl (News.tl (by k_asm))))))
  k_with "call builtin:list.append" => ((with_reducible rename LedR _ _ _ _ _ _ _ _ _ _ _ _ _ _ => hLo); k_dflt (refine app_err hLo (by assumption) (by k_asm) (by k_asm) ?N (by lia) ?_; (case N => first | k_asm | exact News.tl (by k_asm) | exact News.tl (News.tl (by k_asm)) | exact News.tl (News.tl (News.tl (by k_asm))))); intro h' n' F' N' hL'; (try k_sweep); clear hLo)
  k_with "call ref" => ((with_reducible show wpAny _ _ (call (Value.ref 91) _) _ _ _); (with_reducible rename LedR _ _ _ _ _ _ _ _ _ _ _ _ _ _ => hLo); k_dflt ((refine' Spec.usePos (position_spec st.off hLo o5 o3) rfl ?B ?F ?X ?N ?T ?hk ?hd ?hu ?_); (case B => k_asm); (case F => k_asm); (case X => k_asm); (case T => k_asm); (case hk => first | exact rfl | assumption); (case N => first | k_asm | exact News.tl (by k_asm) | exact News.tl (News.tl (by k_asm)) | exact News.tl (News.tl (News.tl (by k_asm)))); (case hd => ktr_room); (case hu => ktr_units); intro D' ta' tb' h' tk' hlt' hle' F' N'; (clear hlt'); (try dsimp only); (try k_fold)))
  k_with "subscriptTail" => ((with_reducible show wpAny _ _ (subscriptTail _ _ (Value.ref Dp) (Value.int _ _)) _ _ _); (obtain ⟨Tq, aq, bq, tq1, tq2, hq1, hq2, hq3, hq4⟩ := hP.at (p := p) (by lia)); (with_reducible rename LedR _ _ _ _ _ _ _ _ _ _ _ _ _ _ => hLo); k_dflt (refine item_listL (News.isList (by first | k_asm | exact News.tl (by k_asm)) (LedR.mem_rest hLo hp)) (by lia) (by lia) (by rw [Int.toNat_natCast]; exact hq1) ?_))
  k_with "compareOp NotEq ref ref" => (k_here; (with_reducible show wpAny _ _ (compareOp CmpOp.NotEq (Value.ref _) (Value.ref _)) _ _ _); (with_reducible rename LedR _ _ _ _ _ _ _ _ _ _ _ _ _ _ => hLo); k_dflt (refine' ne_tup2_no ?epN ?epa ?epb ?epu ?ep1 ?ep2 ?_; (case epN => k_asm); (case epa => exact .head _); (case epb => exact .tail _ (LedR.mem_rest hLo hq2)); (case epu => ke_room); (case ep1 => (rw [hq3, hsp]; rfl)); (case ep2 => (rw [hq4, hsp]; rfl)); k_whole))
  k_steps
  · rename Fr _ _ _ _ => F9
    exact hret _ _ _ (by assumption) F9 (by first | assumption | exact News.tl (by assumption) | exact News.tl (News.tl (by assumption)) | exact News.tl (News.tl (News.tl (by assumption))))
set_option maxRecDepth 100000 in
set_option maxHeartbeats 4000000 in
theorem b1 (hL : LedIs w R rest ad x st news) (hg : (Dg, W.listOf gs.toArray ng) ∈ rest) (hS : StrsAre gs (sg (norm R))) (hp : (Dp, W.listOf ws.toArray np) ∈ rest) (hP : PlOk (norm R) (norm R).length ws rest) (hr : Raw R) (hR : R.length ≤ 32) {p : Nat} (hi : InvG True R st p)
    (bd : Stmt) (tl : List Stmt) (sc : Scope) (hb : forB.drop 1 = bd :: tl) (hs : lawSc = sc) (k : Int) {t0 t1 t6 t7 t8 t9 tx : Tok} {u2 u3 u4 : Option Value} {vt vs : Value} {fh : Bool} (hf : fh = true → 0 < p ∧ 0 < st.off)
    (dp un : Nat) (gd : Option (List Code)) (a : Addr) (ccd : Value) (cl : List (Str × Addr)) (outer : List Env) (A₀ : Around) (base h₀ : Heap) (L : Addr) (s : Shared) (Q : Flow → Shared → Prop) (E : Value → Shared → Prop)
    (B : Below A₀ base outer h₀) (F : Fr h₀ L s.heap (fun y => if y = Str.ofString "n" then some (.int k t0) else if y = Str.ofString "way" then some (.int (k.fdiv 48) t1) else if y = Str.ofString "due" then u2 else if y = Str.ofString "inside" then u3 else if y = Str.ofString "end" then u4 else if y = Str.ofString "fresh" then some (.bool fh) else if y = Str.ofString "place" then some (.int (p : Int) t6) else if y = Str.ofString "until" then some (.int ((norm (R.take st.cut)).length : Int) t7) else if y = Str.ofString "start" then some (.int (st.cut : Int) t8) else if y = Str.ofString "taken" then some (.int (st.place : Int) t9) else base4 x Dp Dg R tx vt vs y))
    (X : (hd04.heap_39 w.params).In h₀) (N : News h₀ L s.heap news) (T : Top hd04.view_39 loose mean mg mb h₀) (hd : dp + 100 < recursionLimit) (hu : un + 800 < cLine) (hE : PassesOwn (model PySem.Challenge.pw_te0074_04 w) (ktrTop dp un gd (Str.ofString "law") sc L a ccd cl outer) (envOf (Str.ofString "law") sc L a ccd) E)
     (hret : ∀ h' tk' m' (st' : St) (p' : Nat) (fh' : Bool) nw', FrC x Dp Dg R tx vt vs k (some (.int (k.fdiv 48) t1)) st' p' fh' m' → InvG True R st' p' → (fh' = true → 0 < p' ∧ 0 < st'.off) → LedIs w R rest ad x st' nw' → Fr h₀ L h' m' → News h₀ L h' nw' → Q .next { s with heap := h', toks := tk' }) :
    wpAny (model PySem.Challenge.pw_te0074_04 w) (ktrTop dp un gd (Str.ofString "law") sc L a ccd cl outer) (exec bd (envOf (Str.ofString "law") sc L a ccd)) Q E s := by
  conv at hb => lhs; whnf
  conv at hs => lhs; whnf
  cases hb
  subst hs
  obtain ⟨size, hz⟩ : ∃ size : Nat, 2 + (k.fdiv 48).fmod 4 = (size : Int) := ⟨(2 + (k.fdiv 48).fmod 4).toNat, by have := Int.fmod_nonneg_of_pos (k.fdiv 48) (show (0 : Int) < 4 by decide); lia⟩
  have hz2 : 2 ≤ size ∧ size ≤ 5 := by
    have h1 := Int.fmod_nonneg_of_pos (k.fdiv 48) (show (0 : Int) < 4 by decide)
    have h2 := Int.fmod_lt_of_pos (k.fdiv 48) (show (0 : Int) < 4 by decide)
    lia
  have hple := invG_le hi
  have hnl := norm_len R
  obtain ⟨o1, o2, o3, o4, o5⟩ := invG_ok hi hr.len
  have hln := invG_len hi
  have i0 := invG_place hi size
  have i4 := invG_cutR (size := size) hi hr.plain
  have hfe := fun (h : st.off = st.chunk.length) => invG_fetch (size := size) hi hr.plain h hz2.1
  obtain ⟨stf, hstf⟩ : ∃ stf, st.fetch R size = stf := ⟨_, rfl⟩
  have hoff0 : stf.off = 0 := by rw [← hstf]; rfl
  rw [hstf] at i0 i4 hfe
  have hT1 : 0 < stf.place := by rw [i0]; exact Nat.lt_min.mpr ⟨Nat.lt_of_lt_of_le (Nat.lt_of_lt_of_le (by decide : 0 < 2) hz2.1) (Nat.le_add_left _ _), List.length_pos_iff.mpr hr.ne⟩
  unfold LedIs at hL
  k_with_none
  k_with "tb" => (first | assumption | (apply le3; assumption; exact rfl) | lia | (simp only [List.length_append, List.length_cons, List.length_nil, List.length_take, List.length_drop, List.length_dropLast, crs_len, partOf_len] at *; lia) | ((with_reducible refine Nat.le_trans (crlf_len _) ?_); tb_start) | ((with_reducible refine Nat.le_trans (split_len _) ?_); tb_start) | ((with_reducible refine Nat.le_trans (norm_len _) ?_); tb_start))
  k_with "call builtin:str.count" => (refine count4 (by decide +kernel) (by first | assumption | lia) ?_)
  k_with "call builtin:str.rfind" => (refine rfind4 (by decide +kernel) (by first | assumption | lia) ?_)
  k_with "call builtin:str.replace" => ((try dsimp only at *); k_dflt (refine repl_crlf_S (by decide +kernel) (by decide +kernel) (by k_ne) (by k_ne) (by k_ne) (by tb_start) ?_); intro _ _ _)
  k_with "call builtin:str.replace" => ((try dsimp only at *); k_dflt (refine repl_cr_S (by decide +kernel) (by decide +kernel) (by k_ne) (by k_ne) (by k_ne) (by tb_start) ?_); intro _ _ _)
  k_with "call builtin:len" => ((with_reducible show wpAny _ _ (call (Value.builtin "len") [Value.str (S _) _]) _ _ _); refine len_S (by tb_start) ?_)
  k_with "call builtin:ord" => ((with_reducible show wpAny _ _ (call (Value.builtin "ord") [Value.str (S _) _]) _ _ _); refine ord_S ?_)
  k_with "binaryOp Add str str" => ((with_reducible show wpAny _ _ (binaryOp Operator.Add (Value.str (S _) _) (Value.str (S _) _)) _ _ _); refine add_S (by tb_start) ?_; intro _ _)
  k_with "inplaceOp Add str str" => ((with_reducible show wpAny _ _ (inplaceOp Operator.Add (Value.str (S _) _) (Value.str (S _) _)) _ _ _); refine iadd_S (by tb_start) ?_; intro _ _)
  k_with "truthy str" => ((with_reducible show wpAny _ _ (truthy (Value.str (S _) _)) _ _ _); refine truthy_S (by tb_start) ?_)
  k_with "compareOp Eq str str" => ((with_reducible show wpAny _ _ (compareOp CmpOp.Eq (Value.str (S _) _) (Value.str (S _) _)) _ _ _); refine eq_S ?_)
  k_with "compareOp NotEq str str" => ((with_reducible show wpAny _ _ (compareOp CmpOp.NotEq (Value.str (S _) _) (Value.str (S _) _)) _ _ _); refine ne_S ?_)
  k_with "subscriptTail Name Slice str ref" => (k_here; (with_reducible rename Fr _ _ _ _ => F'); (with_reducible rename News _ _ _ _ => N'); k_dflt (refine drop_S (s := ⟨_, _, _, _, _⟩) F' N' (by tb_start) ?_); intro _ _ _ _ _; (try k_sweep))
  k_with "subscriptTail Name Slice str ref" => (k_here; (with_reducible rename Fr _ _ _ _ => F'); (with_reducible rename News _ _ _ _ => N'); k_dflt (refine take_S (s := ⟨_, _, _, _, _⟩) F' N' (by tb_start) ?_); intro _ _ _ _ _; (try k_sweep))
  k_with "subscriptTail Name Slice str ref" => (k_here; (with_reducible rename Fr _ _ _ _ => F'); (with_reducible rename News _ _ _ _ => N'); k_dflt (refine mid_S (s := ⟨_, _, _, _, _⟩) F' N' (by tb_start) ?_); intro _ _ _ _ _; (try k_sweep))
  k_with "subscriptTail Name Slice str ref" => (k_here; (with_reducible rename Fr _ _ _ _ => F'); (with_reducible rename News _ _ _ _ => N'); k_dflt (refine part_S (s := ⟨_, _, _, _, _⟩) F' N' (by tb_start) ?_); intro _ _ _ _ _; (try k_sweep))
  k_with "subscriptTail Name Slice str ref" => (k_here; (with_reducible rename Fr _ _ _ _ => F'); (with_reducible rename News _ _ _ _ => N'); k_dflt (refine init_S (s := ⟨_, _, _, _, _⟩) F' N' (by tb_start) ?_); intro _ _ _ _ _; (try k_sweep))
  k_with "subscriptTail Name UnaryOp str int" => (k_here; (with_reducible show wpAny _ _ (subscriptTail _ _ (Value.str (S _) _) (Value.int _ _)) _ _ _); k_dflt (first | (refine last_S (by first | assumption | (intro hz; simp only [hz, List.length_nil] at *; lia)) (by tb_start) ?_) | (refine item_S (by first | assumption | lia | k_extra "my item") (by tb_start) ?_)))
  k_with "subscriptTail Name Name str int" => (k_here; (with_reducible show wpAny _ _ (subscriptTail _ _ (Value.str (S _) _) (Value.int _ _)) _ _ _); first | (with_reducible refine item_S (by k_dflt (first | assumption | lia | k_extra "my item")) (by k_dflt tb_start) ?_) | k_dflt (refine item_Si (by lia) (by first | lia | k_extra "my item") (by tb_start) ?_))
  k_with "subscriptTail Name Constant str int" => (k_here; (with_reducible show wpAny _ _ (subscriptTail _ _ (Value.str (S _) _) (Value.int _ _)) _ _ _); first | (with_reducible refine item_S (by k_dflt (first | assumption | lia | k_extra "my item")) (by k_dflt tb_start) ?_) | k_dflt (refine item_Si (by lia) (by first | lia | k_extra "my item") (by tb_start) ?_))
  k_with "subscriptTail Name BinOp str int" => (k_here; (with_reducible show wpAny _ _ (subscriptTail _ _ (Value.str (S _) _) (Value.int _ _)) _ _ _); first | (with_reducible refine item_S (by k_dflt (first | assumption | lia | k_extra "my item")) (by k_dflt tb_start) ?_) | k_dflt (refine item_Si (by lia) (by first | lia | k_extra "my item") (by tb_start) ?_))
  k_with "subscriptTail Attribute Name str int" => (k_here; (with_reducible show wpAny _ _ (subscriptTail _ _ (Value.str (S _) _) (Value.int _ _)) _ _ _); first | (with_reducible refine item_S (by k_dflt (first | assumption | lia | k_extra "my item")) (by k_dflt tb_start) ?_) | k_dflt (refine item_Si (by lia) (by first | lia | k_extra "my item") (by tb_start) ?_))
  k_with "subscriptTail Attribute Constant str int" => (k_here; (with_reducible show wpAny _ _ (subscriptTail _ _ (Value.str (S _) _) (Value.int _ _)) _ _ _); first | (with_reducible refine item_S (by k_dflt (first | assumption | lia | k_extra "my item")) (by k_dflt tb_start) ?_) | k_dflt (refine item_Si (by lia) (by first | lia | k_extra "my item") (by tb_start) ?_))
  k_with "subscriptTail Attribute Attribute str int" => (k_here; (with_reducible show wpAny _ _ (subscriptTail _ _ (Value.str (S _) _) (Value.int _ _)) _ _ _); first | (with_reducible refine item_S (by k_dflt (first | assumption | lia | k_extra "my item")) (by k_dflt tb_start) ?_) | k_dflt (refine item_Si (by lia) (by first | lia | k_extra "my item") (by tb_start) ?_))
  k_with "truthy ref" => (k_here; k_dflt (refine' truthy_meth ?N ?q ?_; (case N => k_asm); (case q => k_mem); k_whole))
  k_with "exec For Name Name cons nil" => (k_here; (with_reducible rename Fr _ _ _ _ => lF'); k_dflt (refine' For_invVF lF' ?k1 ?k2 ?_; (case k1 => exact rfl); (case k2 => exact rfl); k_whole))
  k_with "exec For Name Subscript cons nil" => (k_here; (with_reducible rename Fr _ _ _ _ => lF'); k_dflt (refine' For_invVF lF' ?k1 ?k2 ?_; (case k1 => exact rfl); (case k2 => exact rfl); k_whole))
  k_with "all" => (refine List.forall_mem_append.mpr ⟨?a, ?b⟩; (case a => k_all); (case b => k_all))
  k_with "rel" => (simp only [List.size_toArray]; rw [PySem.sizeLine_eq]; lia)
  k_with "call builtin:list.append" => (k_here; (with_reducible show wpAny _ _ (call (Value.builtin _) [Value.ref _, _]) _ _ _); k_dflt (refine' append_K ?k1 ?k2 ?k3 ?_ ?z; (case k1 => k_asm); (case k2 => k_asm); (case k3 => k_upd); (case z => tb_rel); k_whole); intro h' F' N'; (try simp only [List.push_toArray] at N'); (try k_sweep))
  k_with "enter" => (refine' code_def ?k1 ?k2 ?k3 ?k4 ?k5 ?kA ?kF ?kK ?k6 ?k7 ?k8 ?k9 ?kB ?_ ?c2 ?c3 ?c4 ?c5; (case kA => exact rfl); (case kF => exact rfl); (case kK => assumption); (case k1 => k_asm); (case k2 => k_asm); (case k3 => k_asm); (case k4 => k_asm); (case k5 => k_asm); (case k6 => k_is); (case k7 => k_is); (case k8 => ktr_room); (case k9 => first | exact BindsTo.of_eq rfl | exact binds_K (by k_in) rfl (by k_is) rfl rfl rfl); (case c5 => decide); (case kB => exact locs rfl); (case c2 => exact rfl); (case c3 => exact rfl); (case c4 => exact rfl); k_whole; intro g' L' h' FG' F' N' B' X' T'; (try dsimp only); (try k_lift B'); (try k_fold))
  k_with "JoinP" => (dsimp only [JoinP])
  k_with "subscriptTail" => (k_here; (with_reducible show wpAny _ _ (subscriptTail _ _ (Value.str (S _) _) (Value.int _ _)) _ _ _); first | (with_reducible refine item_S (by k_dflt (first | assumption | lia | k_extra "my item")) (by k_dflt tb_start) ?_) | k_dflt (refine item_Si (by lia) (by first | lia | k_extra "my item") (by tb_start) ?_))
  k_with "compareOp Eq str str" => ((with_reducible show wpAny _ _ (compareOp CmpOp.Eq (Value.str (S _) _) (Value.str (Str.ofString _) _)) _ _ _); k_dflt (first | refine eq_lit [13] (by decide +kernel) ?_ | refine eq_lit [10] (by decide +kernel) ?_))
  k_with "compareOp NotEq str str" => ((with_reducible show wpAny _ _ (compareOp CmpOp.NotEq (Value.str (S _) _) (Value.str (Str.ofString _) _)) _ _ _); k_dflt (first | refine ne_lit [13] (by decide +kernel) ?_ | refine ne_lit [10] (by decide +kernel) ?_))
  k_with "inplaceOp Add str str" => ((with_reducible show wpAny _ _ (inplaceOp Operator.Add (Value.str (S _) _) (Value.str (Str.ofString _) _)) _ _ _); k_dflt (refine iadd_lit [10] (by decide +kernel) (by tb_start) ?_); intro _ _)
  k_with "room" => (k_dflt ((first | apply room4 | apply room3 | apply room2 | apply room1 | apply room0 | apply roomz); assumption; exact rfl))
  k_with "getAttr ref" => ((with_reducible show wpAny _ _ (getAttr (Value.ref _) (Str.ofString "chunk") _) _ _ _); k_dflt (refine g_chunk (by assumption) (by k_asm) (by k_asm) ?N ?_; (case N => first | k_asm | exact News.tl (by k_asm) | exact News.tl (News.tl (by k_asm)) | exact News.tl (News.tl (News.tl (by k_asm))))); intro _)
  k_with "getAttr ref" => ((with_reducible show wpAny _ _ (getAttr (Value.ref _) (Str.ofString "chunkSize") _) _ _ _); k_dflt (refine g_size (by assumption) (by k_asm) (by k_asm) ?N ?_; (case N => first | k_asm | exact News.tl (by k_asm) | exact News.tl (News.tl (by k_asm)) | exact News.tl (News.tl (News.tl (by k_asm))))); intro _)
  k_with "getAttr ref" => ((with_reducible show wpAny _ _ (getAttr (Value.ref _) (Str.ofString "chunkOffset") _) _ _ _); k_dflt (refine g_off (by assumption) (by k_asm) (by k_asm) ?N ?_; (case N => first | k_asm | exact News.tl (by k_asm) | exact News.tl (News.tl (by k_asm)) | exact News.tl (News.tl (News.tl (by k_asm))))); intro _)
  k_with "getAttr ref" => ((with_reducible show wpAny _ _ (getAttr (Value.ref _) (Str.ofString "prevNumLines") _) _ _ _); k_dflt (refine g_pl (by assumption) (by k_asm) (by k_asm) ?N ?_; (case N => first | k_asm | exact News.tl (by k_asm) | exact News.tl (News.tl (by k_asm)) | exact News.tl (News.tl (News.tl (by k_asm))))); intro _)
  k_with "getAttr ref" => ((with_reducible show wpAny _ _ (getAttr (Value.ref _) (Str.ofString "prevNumCols") _) _ _ _); k_dflt (refine g_pc (by assumption) (by k_asm) (by k_asm) ?N ?_; (case N => first | k_asm | exact News.tl (by k_asm) | exact News.tl (News.tl (by k_asm)) | exact News.tl (News.tl (News.tl (by k_asm))))); intro _)
  k_with "getAttr ref" => ((with_reducible show wpAny _ _ (getAttr (Value.ref _) (Str.ofString "errors") _) _ _ _); k_dflt (refine g_errors (by assumption) (by k_asm) (by k_asm) ?N ?_; (case N => first | k_asm | exact News.tl (by k_asm) | exact News.tl (News.tl (by k_asm)) | exact News.tl (News.tl (News.tl (by k_asm))))); intro _ hE1)
  k_with "getAttr ref" => ((with_reducible show wpAny _ _ (getAttr (Value.ref _) (Str.ofString "dataStream") _) _ _ _); k_dflt (refine g_stream (by assumption) (by k_asm) (by k_asm) ?N ?_; (case N => first | k_asm | exact News.tl (by k_asm) | exact News.tl (News.tl (by k_asm)) | exact News.tl (News.tl (News.tl (by k_asm))))); intro _ hT1)
  k_with "getAttr ref" => ((with_reducible show wpAny _ _ (getAttr (Value.ref _) (Str.ofString "_bufferedCharacter") _) _ _ _); k_dflt (refine g_buf (by assumption) (by k_asm) (by k_asm) ?N ?_; (case N => first | k_asm | exact News.tl (by k_asm) | exact News.tl (News.tl (by k_asm)) | exact News.tl (News.tl (News.tl (by k_asm))))); intro _ hB1; (try cases hB1))
  k_with "getAttr ref" => ((with_reducible show wpAny _ _ (getAttr (Value.ref _) (Str.ofString "reportCharacterErrors") _) _ _ _); k_dflt (refine g_rep (by assumption) (by k_asm) (by k_asm) ?N ?_; (case N => first | k_asm | exact News.tl (by k_asm) | exact News.tl (News.tl (by k_asm)) | exact News.tl (News.tl (News.tl (by k_asm))))); intro _ hR1)
  k_with "getAttr ref" => ((with_reducible show wpAny _ _ (getAttr (Value.ref _) (Str.ofString "_defaultChunkSize") _) _ _ _); k_dflt (refine g_dflt (by assumption) (by k_asm) (by k_asm) ?N ?_; (case N => first | k_asm | exact News.tl (by k_asm) | exact News.tl (News.tl (by k_asm)) | exact News.tl (News.tl (News.tl (by k_asm))))); intro _)
  k_with "getAttr ref" => ((with_reducible show wpAny _ _ (getAttr (Value.ref _) (Str.ofString "text") _) _ _ _); k_dflt (refine g_text (by assumption) (by assumption) (by k_asm) (by k_asm) ?N ?_; (case N => first | k_asm | exact News.tl (by k_asm) | exact News.tl (News.tl (by k_asm)) | exact News.tl (News.tl (News.tl (by k_asm))))); intro _)
  k_with "getAttr ref" => ((with_reducible show wpAny _ _ (getAttr (Value.ref _) (Str.ofString "place") _) _ _ _); k_dflt (refine g_place (by assumption) (by assumption) (by k_asm) (by k_asm) ?N ?_; (case N => first | k_asm | exact News.tl (by k_asm) | exact News.tl (News.tl (by k_asm)) | exact News.tl (News.tl (News.tl (by k_asm))))); intro _)
  k_with "setAttr ref" => ((with_reducible show wpAny _ _ (setAttr (Value.ref _) (Str.ofString "chunk") _) _ _ _); (with_reducible rename LedR _ _ _ _ _ _ _ _ _ _ _ _ _ _ => hLo); k_dflt (refine s_chunk hLo (by k_asm) (by k_asm) ?N ?_; (case N => first | k_asm | exact News.tl (by k_asm) | exact News.tl (News.tl (by k_asm)) | exact News.tl (News.tl (News.tl (by k_asm))))); intro h' n' F' N' hL'; (try k_sweep); clear hLo)
  k_with "setAttr ref" => ((with_reducible show wpAny _ _ (setAttr (Value.ref _) (Str.ofString "chunk") (Value.str (Str.ofString "") _)) _ _ _); (with_reducible rename LedR _ _ _ _ _ _ _ _ _ _ _ _ _ _ => hLo); k_dflt (refine s_chunk0 hLo (by k_asm) (by k_asm) ?N ?_; (case N => first | k_asm | exact News.tl (by k_asm) | exact News.tl (News.tl (by k_asm)) | exact News.tl (News.tl (News.tl (by k_asm))))); intro h' n' F' N' hL'; (try k_sweep); clear hLo)
  k_with "setAttr ref" => ((with_reducible show wpAny _ _ (setAttr (Value.ref _) (Str.ofString "chunkSize") _) _ _ _); (with_reducible rename LedR _ _ _ _ _ _ _ _ _ _ _ _ _ _ => hLo); k_dflt (refine s_size hLo (by k_asm) (by k_asm) ?N ?_; (case N => first | k_asm | exact News.tl (by k_asm) | exact News.tl (News.tl (by k_asm)) | exact News.tl (News.tl (News.tl (by k_asm))))); intro h' n' F' N' hL'; (try k_sweep); clear hLo)
  k_with "setAttr ref" => ((with_reducible show wpAny _ _ (setAttr (Value.ref _) (Str.ofString "chunkOffset") _) _ _ _); (with_reducible rename LedR _ _ _ _ _ _ _ _ _ _ _ _ _ _ => hLo); k_dflt (refine s_off hLo (by k_asm) (by k_asm) ?N ?_; (case N => first | k_asm | exact News.tl (by k_asm) | exact News.tl (News.tl (by k_asm)) | exact News.tl (News.tl (News.tl (by k_asm))))); intro h' n' F' N' hL'; (try k_sweep); clear hLo)
  k_with "setAttr ref" => ((with_reducible show wpAny _ _ (setAttr (Value.ref _) (Str.ofString "prevNumLines") _) _ _ _); (with_reducible rename LedR _ _ _ _ _ _ _ _ _ _ _ _ _ _ => hLo); k_dflt (refine s_pl hLo (by k_asm) (by k_asm) ?N ?_; (case N => first | k_asm | exact News.tl (by k_asm) | exact News.tl (News.tl (by k_asm)) | exact News.tl (News.tl (News.tl (by k_asm))))); intro h' n' F' N' hL'; (try k_sweep); clear hLo)
  k_with "setAttr ref" => ((with_reducible show wpAny _ _ (setAttr (Value.ref _) (Str.ofString "prevNumCols") _) _ _ _); (with_reducible rename LedR _ _ _ _ _ _ _ _ _ _ _ _ _ _ => hLo); k_dflt (refine s_pc hLo (by k_asm) (by k_asm) ?N ?_; (case N => first | k_asm | exact News.tl (by k_asm) | exact News.tl (News.tl (by k_asm)) | exact News.tl (News.tl (News.tl (by k_asm))))); intro h' n' F' N' hL'; (try k_sweep); clear hLo)
  k_with "setAttr ref" => ((with_reducible show wpAny _ _ (setAttr (Value.ref _) (Str.ofString "_bufferedCharacter") _) _ _ _); (with_reducible rename LedR _ _ _ _ _ _ _ _ _ _ _ _ _ _ => hLo); k_dflt (refine s_buf (by first | exact BufIs.none | exact BufIs.some | assumption) hLo (by k_asm) (by k_asm) ?N ?_; (case N => first | k_asm | exact News.tl (by k_asm) | exact News.tl (News.tl (by k_asm)) | exact News.tl (News.tl (News.tl (by k_asm))))); intro h' n' F' N' hL'; (try k_sweep); clear hLo)
  k_with "setAttr ref" => ((with_reducible show wpAny _ _ (setAttr (Value.ref _) (Str.ofString "place") _) _ _ _); (with_reducible rename LedR _ _ _ _ _ _ _ _ _ _ _ _ _ _ => hLo); k_dflt (refine s_place hLo (by assumption) (by k_asm) (by k_asm) ?N ?_; (case N => first | k_asm | exact News.tl (by k_asm) | exact News.tl (News.tl (by k_asm)) | exact News.tl (News.tl (News.tl (by k_asm))))); intro h' n' F' N' hL'; (try k_sweep); clear hLo)
  k_with "getMethod ref" => ((with_reducible show wpAny _ _ (getMethod (Value.ref _) (Str.ofString "_position") _) _ _ _); k_dflt (refine m_pos_ (by assumption) (by k_asm) (by k_asm) ?N ?_; (case N => first | k_asm | exact News.tl (by k_asm) | exact News.tl (News.tl (by k_asm)) | exact News.tl (News.tl (News.tl (by k_asm))))))
  k_with "getMethod ref" => ((with_reducible show wpAny _ _ (getMethod (Value.ref _) (Str.ofString "position") _) _ _ _); k_dflt (refine m_pos (by assumption) (by k_asm) (by k_asm) ?N ?_; (case N => first | k_asm | exact News.tl (by k_asm) | exact News.tl (News.tl (by k_asm)) | exact News.tl (News.tl (News.tl (by k_asm))))))
  k_with "getMethod ref" => ((with_reducible show wpAny _ _ (getMethod (Value.ref _) (Str.ofString "char") _) _ _ _); k_dflt (refine m_char (by assumption) (by k_asm) (by k_asm) ?N ?_; (case N => first | k_asm | exact News.tl (by k_asm) | exact News.tl (News.tl (by k_asm)) | exact News.tl (News.tl (News.tl (by k_asm))))))
  k_with "getMethod ref" => ((with_reducible show wpAny _ _ (getMethod (Value.ref _) (Str.ofString "readChunk") _) _ _ _); k_dflt (refine m_chunk (by assumption) (by k_asm) (by k_asm) ?N ?_; (case N => first | k_asm | exact News.tl (by k_asm) | exact News.tl (News.tl (by k_asm)) | exact News.tl (News.tl (News.tl (by k_asm))))))
  k_with "getMethod ref" => ((with_reducible show wpAny _ _ (getMethod (Value.ref _) (Str.ofString "unget") _) _ _ _); k_dflt (refine m_unget (by assumption) (by k_asm) (by k_asm) ?N ?_; (case N => first | k_asm | exact News.tl (by k_asm) | exact News.tl (News.tl (by k_asm)) | exact News.tl (News.tl (News.tl (by k_asm))))))
  k_with "getMethod ref" => ((with_reducible show wpAny _ _ (getMethod (Value.ref _) (Str.ofString "charsUntil") _) _ _ _); k_dflt (refine m_until (by assumption) (by k_asm) (by k_asm) ?N ?_; (case N => first | k_asm | exact News.tl (by k_asm) | exact News.tl (News.tl (by k_asm)) | exact News.tl (News.tl (News.tl (by k_asm))))))
  k_with "getMethod ref" => ((with_reducible show wpAny _ _ (getMethod (Value.ref _) (Str.ofString "read") _) _ _ _); k_dflt (refine m_read (by assumption) (by assumption) (by k_asm) (by k_asm) ?N ?_; (case N => first | k_asm | exact News.tl (by k_asm) | exact News.tl (News.tl (by k_asm)) | exact News.tl (News.tl (News.tl (by k_asm))))))
  k_with "getMethod ref" => ((with_reducible show wpAny _ _ (getMethod (Value.ref _) (Str.ofString "reportCharacterErrors") _) _ _ _); k_dflt (refine m_rep (by assumption) (by k_asm) (by k_asm) ?N ?_; (case N => first | k_asm | exact News.tl (by k_asm) | exact News.tl (News.tl (by k_asm)) | exact News.tl (News.tl (News.tl (by k_asm))))); intro _ hR1)
  k_with "getMethod ref" => ((with_reducible show wpAny _ _ (getMethod (Value.ref _) (Str.ofString "append") _) _ _ _); k_dflt (refine m_append (by assumption) (by assumption) (by k_asm) (by k_asm) ?N ?_; (case N => first | k_asm | exact News.tl (by k_asm) | exact News.tl (News.tl (by k_asm)) | exact News.tl (News.tl (News.tl (by k_asm))))))
  k_with "call builtin:list.append" => ((with_reducible rename LedR _ _ _ _ _ _ _ _ _ _ _ _ _ _ => hLo); k_dflt (refine app_err hLo (by assumption) (by k_asm) (by k_asm) ?N (by lia) ?_; (case N => first | k_asm | exact News.tl (by k_asm) | exact News.tl (News.tl (by k_asm)) | exact News.tl (News.tl (News.tl (by k_asm))))); intro h' n' F' N' hL'; (try k_sweep); clear hLo)
  k_with "call ref" => ((with_reducible show wpAny _ _ (call (Value.ref 157) _) _ _ _); k_dflt ((have he : st.off = st.chunk.length := by lia); (obtain ⟨f1, f2⟩ := hfe he); (have hsp := invG_spot f1); (obtain ⟨q1, q2, q3, q4, q5⟩ := invG_ok f1 hr.len); (rw [hz]); (refine' Spec.useFet (fetched_at R st.cut st.place size stf.place _ _ _ _ (Nat.le_trans o1 (by decide)) i0 hT1 _ i4) ?B ?F ?X ?N ?T ?hk ?hd ?hu ?_); (case B => k_asm); (case F => k_asm); (case X => k_asm); (case T => k_asm); (case hk => first | exact rfl | assumption); (case N => first | k_asm | exact News.tl (by k_asm) | exact News.tl (News.tl (by k_asm)) | exact News.tl (News.tl (News.tl (by k_asm)))); (case hd => ktr_room); (case hu => ktr_units); intro D8 ta8 tb8 tc8 h' tk' hlt' hle' F' N'; (try k_lt hlt'); (try dsimp only); (try k_fold)))
  k_with "call ref" => ((with_reducible show wpAny _ _ (call (Value.ref 106) _) _ _ _); (with_reducible rename LedR _ _ _ _ _ _ _ _ _ _ _ _ _ _ => hLo); k_dflt ((rw [hz]); (refine' Spec.useV (chunk_spec (st := st) hLo size _ o1 o2 o3 o4 (Nat.le_trans hz2.2 (by decide))) ?B ?F ?X ?N ?T ?hk ?hd ?hu ?_); (case B => k_asm); (case F => k_asm); (case X => k_asm); (case T => k_asm); (case hk => first | exact rfl | assumption); (case N => first | k_asm | exact News.tl (by k_asm) | exact News.tl (News.tl (by k_asm)) | exact News.tl (News.tl (News.tl (by k_asm)))); (case hd => ktr_room); (case hu => ktr_units); (rw [f2, hstf]); intro n' h' tk' hL' hle' F' N'; (clear hLo); (try dsimp only); (try k_fold)))
  k_with "call builtin:len" => ((with_reducible show wpAny _ _ (call (Value.builtin _) [Value.ref _]) _ _ _); (with_reducible rename LedR _ _ _ _ _ _ _ _ _ _ _ _ _ _ => hLo); k_dflt (refine len_sg (News.isList (by first | k_asm | exact News.tl (by k_asm)) (LedR.mem_rest hLo hg)) hS (Nat.le_trans (norm_len _) (Nat.le_trans hR (by decide))) ?_))
  k_with "call ref" => ((with_reducible show wpAny _ _ (call (Value.ref 91) _) _ _ _); (with_reducible rename LedR _ _ _ _ _ _ _ _ _ _ _ _ _ _ => hLo); k_dflt ((refine' Spec.usePos (position_spec stf.off hLo q5 q3) rfl ?B ?F ?X ?N ?T ?hk ?hd ?hu ?_); (case B => k_asm); (case F => k_asm); (case X => k_asm); (case T => k_asm); (case hk => first | exact rfl | assumption); (case N => first | k_asm | exact News.tl (by k_asm) | exact News.tl (News.tl (by k_asm)) | exact News.tl (News.tl (News.tl (by k_asm)))); (case hd => ktr_room); (case hu => ktr_units); intro D' ta' tb' h' tk' hlt' hle' F' N'; (clear hlt'); (try dsimp only); (try k_fold)))
  k_with "subscriptTail" => ((with_reducible show wpAny _ _ (subscriptTail _ _ (Value.ref Dp) (Value.int _ _)) _ _ _); (obtain ⟨Tq, aq, bq, tq1, tq2, hq1, hq2, hq3, hq4⟩ := hP.at (p := p) (by lia)); (with_reducible rename LedR _ _ _ _ _ _ _ _ _ _ _ _ _ _ => hLo); k_dflt (refine item_listL (News.isList (by first | k_asm | exact News.tl (by k_asm)) (LedR.mem_rest hLo hp)) (by lia) (by lia) (by rw [Int.toNat_natCast]; exact hq1) ?_))
  k_with "compareOp NotEq ref ref" => (k_here; (with_reducible show wpAny _ _ (compareOp CmpOp.NotEq (Value.ref _) (Value.ref _)) _ _ _); (with_reducible rename LedR _ _ _ _ _ _ _ _ _ _ _ _ _ _ => hLo); k_dflt (refine' ne_tup2_no ?epN ?epa ?epb ?epu ?ep1 ?ep2 ?_; (case epN => k_asm); (case epa => exact .head _); (case epb => exact .tail _ (LedR.mem_rest hLo hq2)); (case epu => ke_room); (case ep1 => (rw [hq3, hsp]; rfl)); (case ep2 => (rw [hq4, hsp]; rfl)); k_whole))
  k_steps
  · exact absurd (by assumption) (by rw [bne_lt]; decide)
  · rename Fr _ _ _ _ => F9
    exact hret _ _ _ stf p false _ ⟨⟨_, rfl⟩, rfl, rfl, ⟨_, rfl⟩, ⟨_, rfl⟩, ⟨_, rfl⟩, ⟨_, rfl⟩, fun z a0 a1 a2 a3 a4 a5 a6 a7 a8 a9 => (by repeat (first | with_reducible rfl | refine (if_neg (by assumption)).trans ?_ | rfl))⟩ f1 (fun h => by cases h) (by assumption) F9 (by first | assumption | exact News.tl (by assumption) | exact News.tl (News.tl (by assumption)) | exact News.tl (News.tl (News.tl (by assumption))))
  all_goals (
    rename Fr _ _ _ _ => F9
    exact hret _ _ _ st p fh _ ⟨⟨_, rfl⟩, rfl, rfl, ⟨_, rfl⟩, ⟨_, rfl⟩, ⟨_, rfl⟩, ⟨_, rfl⟩, fun z a0 a1 a2 a3 a4 a5 a6 a7 a8 a9 => (by repeat (first | with_reducible rfl | refine (if_neg (by assumption)).trans ?_ | rfl))⟩ hi hf (by assumption) F9 (by first | assumption | exact News.tl (by assumption) | exact News.tl (News.tl (by assumption)) | exact News.tl (News.tl (News.tl (by assumption)))))
end
section
variable {w : World} {mean : ExcName → Option Value} {mg mb : Str → Option Value} {R : List Nat} {rest : List (Addr × Obj)} {ad : List Nat} {x : Nat} {st : St} {news : List (Addr × Obj)} {Dg Dp ng np : Nat} {gs ws : List Value}
set_option maxRecDepth 100000 in
set_option maxHeartbeats 4000000 in
theorem b2a (hL : LedIs w R rest ad x st news) (hg : (Dg, W.listOf gs.toArray ng) ∈ rest) (hS : StrsAre gs (sg (norm R))) (hp : (Dp, W.listOf ws.toArray np) ∈ rest) (hP : PlOk (norm R) (norm R).length ws rest) (hr : Raw R) (hR : R.length ≤ 32) {p : Nat} (hi : InvG True R st p)
    (bd : Stmt) (tl : List Stmt) (sc : Scope) (hb : forB.drop 2 = bd :: tl) (hs : lawSc = sc) (k : Int) {t0 t1 t6 t7 t8 t9 tx : Tok} {u2 u3 u4 : Option Value} {vt vs : Value} {fh : Bool} (hf : fh = true → 0 < p ∧ 0 < st.off)
    (dp un : Nat) (gd : Option (List Code)) (a : Addr) (ccd : Value) (cl : List (Str × Addr)) (outer : List Env) (A₀ : Around) (base h₀ : Heap) (L : Addr) (s : Shared) (Q : Flow → Shared → Prop) (E : Value → Shared → Prop)
    (B : Below A₀ base outer h₀) (F : Fr h₀ L s.heap (fun y => if y = Str.ofString "n" then some (.int k t0) else if y = Str.ofString "way" then some (.int (k.fdiv 48) t1) else if y = Str.ofString "due" then u2 else if y = Str.ofString "inside" then u3 else if y = Str.ofString "end" then u4 else if y = Str.ofString "fresh" then some (.bool fh) else if y = Str.ofString "place" then some (.int (p : Int) t6) else if y = Str.ofString "until" then some (.int ((norm (R.take st.cut)).length : Int) t7) else if y = Str.ofString "start" then some (.int (st.cut : Int) t8) else if y = Str.ofString "taken" then some (.int (st.place : Int) t9) else base4 x Dp Dg R tx vt vs y))
    (X : (hd04.heap_39 w.params).In h₀) (N : News h₀ L s.heap news) (T : Top hd04.view_39 loose mean mg mb h₀) (hd : dp + 100 < recursionLimit) (hu : un + 800 < cLine) (hE : PassesOwn (model PySem.Challenge.pw_te0074_04 w) (ktrTop dp un gd (Str.ofString "law") sc L a ccd cl outer) (envOf (Str.ofString "law") sc L a ccd) E)
    (hw : (k.fdiv 12).fmod 4 = 0) (hret : ∀ h' tk' m' (st' : St) (p' : Nat) (fh' : Bool) nw', FrC x Dp Dg R tx vt vs k (some (.int (k.fdiv 48) t1)) st' p' fh' m' → InvG True R st' p' → (fh' = true → 0 < p' ∧ 0 < st'.off) → LedIs w R rest ad x st' nw' → Fr h₀ L h' m' → News h₀ L h' nw' → Q .next { s with heap := h', toks := tk' }) :
    wpAny (model PySem.Challenge.pw_te0074_04 w) (ktrTop dp un gd (Str.ofString "law") sc L a ccd cl outer) (exec bd (envOf (Str.ofString "law") sc L a ccd)) Q E s := by
  conv at hb => lhs; whnf
  conv at hs => lhs; whnf
  cases hb
  subst hs
  have hple := invG_le hi
  have hnl := norm_len R
  obtain ⟨o1, o2, o3, o4, o5⟩ := invG_ok hi hr.len
  have hch := char4 hi hr hR
  unfold LedIs at hL
  k_with_none
  k_with "tb" => (first | assumption | (apply le3; assumption; exact rfl) | lia | (simp only [List.length_append, List.length_cons, List.length_nil, List.length_take, List.length_drop, List.length_dropLast, crs_len, partOf_len] at *; lia) | ((with_reducible refine Nat.le_trans (crlf_len _) ?_); tb_start) | ((with_reducible refine Nat.le_trans (split_len _) ?_); tb_start) | ((with_reducible refine Nat.le_trans (norm_len _) ?_); tb_start))
  k_with "call builtin:str.count" => (refine count4 (by decide +kernel) (by first | assumption | lia) ?_)
  k_with "call builtin:str.rfind" => (refine rfind4 (by decide +kernel) (by first | assumption | lia) ?_)
  k_with "call builtin:str.replace" => ((try dsimp only at *); k_dflt (refine repl_crlf_S (by decide +kernel) (by decide +kernel) (by k_ne) (by k_ne) (by k_ne) (by tb_start) ?_); intro _ _ _)
  k_with "call builtin:str.replace" => ((try dsimp only at *); k_dflt (refine repl_cr_S (by decide +kernel) (by decide +kernel) (by k_ne) (by k_ne) (by k_ne) (by tb_start) ?_); intro _ _ _)
  k_with "call builtin:len" => ((with_reducible show wpAny _ _ (call (Value.builtin "len") [Value.str (S _) _]) _ _ _); refine len_S (by tb_start) ?_)
  k_with "call builtin:ord" => ((with_reducible show wpAny _ _ (call (Value.builtin "ord") [Value.str (S _) _]) _ _ _); refine ord_S ?_)
  k_with "binaryOp Add str str" => ((with_reducible show wpAny _ _ (binaryOp Operator.Add (Value.str (S _) _) (Value.str (S _) _)) _ _ _); refine add_S (by tb_start) ?_; intro _ _)
  k_with "inplaceOp Add str str" => ((with_reducible show wpAny _ _ (inplaceOp Operator.Add (Value.str (S _) _) (Value.str (S _) _)) _ _ _); refine iadd_S (by tb_start) ?_; intro _ _)
  k_with "truthy str" => ((with_reducible show wpAny _ _ (truthy (Value.str (S _) _)) _ _ _); refine truthy_S (by tb_start) ?_)
  k_with "compareOp Eq str str" => ((with_reducible show wpAny _ _ (compareOp CmpOp.Eq (Value.str (S _) _) (Value.str (S _) _)) _ _ _); refine eq_S ?_)
  k_with "compareOp NotEq str str" => ((with_reducible show wpAny _ _ (compareOp CmpOp.NotEq (Value.str (S _) _) (Value.str (S _) _)) _ _ _); refine ne_S ?_)
  k_with "subscriptTail Name Slice str ref" => (k_here; (with_reducible rename Fr _ _ _ _ => F'); (with_reducible rename News _ _ _ _ => N'); k_dflt (refine drop_S (s := ⟨_, _, _, _, _⟩) F' N' (by tb_start) ?_); intro _ _ _ _ _; (try k_sweep))
  k_with "subscriptTail Name Slice str ref" => (k_here; (with_reducible rename Fr _ _ _ _ => F'); (with_reducible rename News _ _ _ _ => N'); k_dflt (refine take_S (s := ⟨_, _, _, _, _⟩) F' N' (by tb_start) ?_); intro _ _ _ _ _; (try k_sweep))
  k_with "subscriptTail Name Slice str ref" => (k_here; (with_reducible rename Fr _ _ _ _ => F'); (with_reducible rename News _ _ _ _ => N'); k_dflt (refine mid_S (s := ⟨_, _, _, _, _⟩) F' N' (by tb_start) ?_); intro _ _ _ _ _; (try k_sweep))
  k_with "subscriptTail Name Slice str ref" => (k_here; (with_reducible rename Fr _ _ _ _ => F'); (with_reducible rename News _ _ _ _ => N'); k_dflt (refine part_S (s := ⟨_, _, _, _, _⟩) F' N' (by tb_start) ?_); intro _ _ _ _ _; (try k_sweep))
  k_with "subscriptTail Name Slice str ref" => (k_here; (with_reducible rename Fr _ _ _ _ => F'); (with_reducible rename News _ _ _ _ => N'); k_dflt (refine init_S (s := ⟨_, _, _, _, _⟩) F' N' (by tb_start) ?_); intro _ _ _ _ _; (try k_sweep))
  k_with "subscriptTail Name UnaryOp str int" => (k_here; (with_reducible show wpAny _ _ (subscriptTail _ _ (Value.str (S _) _) (Value.int _ _)) _ _ _); k_dflt (first | (refine last_S (by first | assumption | (intro hz; simp only [hz, List.length_nil] at *; lia)) (by tb_start) ?_) | (refine item_S (by first | assumption | lia | k_extra "my item") (by tb_start) ?_)))
  k_with "subscriptTail Name Name str int" => (k_here; (with_reducible show wpAny _ _ (subscriptTail _ _ (Value.str (S _) _) (Value.int _ _)) _ _ _); first | (with_reducible refine item_S (by k_dflt (first | assumption | lia | k_extra "my item")) (by k_dflt tb_start) ?_) | k_dflt (refine item_Si (by lia) (by first | lia | k_extra "my item") (by tb_start) ?_))
  k_with "subscriptTail Name Constant str int" => (k_here; (with_reducible show wpAny _ _ (subscriptTail _ _ (Value.str (S _) _) (Value.int _ _)) _ _ _); first | (with_reducible refine item_S (by k_dflt (first | assumption | lia | k_extra "my item")) (by k_dflt tb_start) ?_) | k_dflt (refine item_Si (by lia) (by first | lia | k_extra "my item") (by tb_start) ?_))
  k_with "subscriptTail Name BinOp str int" => (k_here; (with_reducible show wpAny _ _ (subscriptTail _ _ (Value.str (S _) _) (Value.int _ _)) _ _ _); first | (with_reducible refine item_S (by k_dflt (first | assumption | lia | k_extra "my item")) (by k_dflt tb_start) ?_) | k_dflt (refine item_Si (by lia) (by first | lia | k_extra "my item") (by tb_start) ?_))
  k_with "subscriptTail Attribute Name str int" => (k_here; (with_reducible show wpAny _ _ (subscriptTail _ _ (Value.str (S _) _) (Value.int _ _)) _ _ _); first | (with_reducible refine item_S (by k_dflt (first | assumption | lia | k_extra "my item")) (by k_dflt tb_start) ?_) | k_dflt (refine item_Si (by lia) (by first | lia | k_extra "my item") (by tb_start) ?_))
  k_with "subscriptTail Attribute Constant str int" => (k_here; (with_reducible show wpAny _ _ (subscriptTail _ _ (Value.str (S _) _) (Value.int _ _)) _ _ _); first | (with_reducible refine item_S (by k_dflt (first | assumption | lia | k_extra "my item")) (by k_dflt tb_start) ?_) | k_dflt (refine item_Si (by lia) (by first | lia | k_extra "my item") (by tb_start) ?_))
  k_with "subscriptTail Attribute Attribute str int" => (k_here; (with_reducible show wpAny _ _ (subscriptTail _ _ (Value.str (S _) _) (Value.int _ _)) _ _ _); first | (with_reducible refine item_S (by k_dflt (first | assumption | lia | k_extra "my item")) (by k_dflt tb_start) ?_) | k_dflt (refine item_Si (by lia) (by first | lia | k_extra "my item") (by tb_start) ?_))
  k_with "truthy ref" => (k_here; k_dflt (refine' truthy_meth ?N ?q ?_; (case N => k_asm); (case q => k_mem); k_whole))
  k_with "exec For Name Name cons nil" => (k_here; (with_reducible rename Fr _ _ _ _ => lF'); k_dflt (refine' For_invVF lF' ?k1 ?k2 ?_; (case k1 => exact rfl); (case k2 => exact rfl); k_whole))
  k_with "exec For Name Subscript cons nil" => (k_here; (with_reducible rename Fr _ _ _ _ => lF'); k_dflt (refine' For_invVF lF' ?k1 ?k2 ?_; (case k1 => exact rfl); (case k2 => exact rfl); k_whole))
  k_with "all" => (refine List.forall_mem_append.mpr ⟨?a, ?b⟩; (case a => k_all); (case b => k_all))
  k_with "rel" => (simp only [List.size_toArray]; rw [PySem.sizeLine_eq]; lia)
  k_with "call builtin:list.append" => (k_here; (with_reducible show wpAny _ _ (call (Value.builtin _) [Value.ref _, _]) _ _ _); k_dflt (refine' append_K ?k1 ?k2 ?k3 ?_ ?z; (case k1 => k_asm); (case k2 => k_asm); (case k3 => k_upd); (case z => tb_rel); k_whole); intro h' F' N'; (try simp only [List.push_toArray] at N'); (try k_sweep))
  k_with "enter" => (refine' code_def ?k1 ?k2 ?k3 ?k4 ?k5 ?kA ?kF ?kK ?k6 ?k7 ?k8 ?k9 ?kB ?_ ?c2 ?c3 ?c4 ?c5; (case kA => exact rfl); (case kF => exact rfl); (case kK => assumption); (case k1 => k_asm); (case k2 => k_asm); (case k3 => k_asm); (case k4 => k_asm); (case k5 => k_asm); (case k6 => k_is); (case k7 => k_is); (case k8 => ktr_room); (case k9 => first | exact BindsTo.of_eq rfl | exact binds_K (by k_in) rfl (by k_is) rfl rfl rfl); (case c5 => decide); (case kB => exact locs rfl); (case c2 => exact rfl); (case c3 => exact rfl); (case c4 => exact rfl); k_whole; intro g' L' h' FG' F' N' B' X' T'; (try dsimp only); (try k_lift B'); (try k_fold))
  k_with "JoinP" => (dsimp only [JoinP])
  k_with "subscriptTail" => (k_here; (with_reducible show wpAny _ _ (subscriptTail _ _ (Value.str (S _) _) (Value.int _ _)) _ _ _); first | (with_reducible refine item_S (by k_dflt (first | assumption | lia | k_extra "my item")) (by k_dflt tb_start) ?_) | k_dflt (refine item_Si (by lia) (by first | lia | k_extra "my item") (by tb_start) ?_))
  k_with "compareOp Eq str str" => ((with_reducible show wpAny _ _ (compareOp CmpOp.Eq (Value.str (S _) _) (Value.str (Str.ofString _) _)) _ _ _); k_dflt (first | refine eq_lit [13] (by decide +kernel) ?_ | refine eq_lit [10] (by decide +kernel) ?_))
  k_with "compareOp NotEq str str" => ((with_reducible show wpAny _ _ (compareOp CmpOp.NotEq (Value.str (S _) _) (Value.str (Str.ofString _) _)) _ _ _); k_dflt (first | refine ne_lit [13] (by decide +kernel) ?_ | refine ne_lit [10] (by decide +kernel) ?_))
  k_with "inplaceOp Add str str" => ((with_reducible show wpAny _ _ (inplaceOp Operator.Add (Value.str (S _) _) (Value.str (Str.ofString _) _)) _ _ _); k_dflt (refine iadd_lit [10] (by decide +kernel) (by tb_start) ?_); intro _ _)
  k_with "room" => (k_dflt ((first | apply room4 | apply room3 | apply room2 | apply room1 | apply room0 | apply roomz); assumption; exact rfl))
  k_with "getAttr ref" => ((with_reducible show wpAny _ _ (getAttr (Value.ref _) (Str.ofString "chunk") _) _ _ _); k_dflt (refine g_chunk (by assumption) (by k_asm) (by k_asm) ?N ?_; (case N => first | k_asm | exact News.tl (by k_asm) | exact News.tl (News.tl (by k_asm)) | exact News.tl (News.tl (News.tl (by k_asm))))); intro _)
  k_with "getAttr ref" => ((with_reducible show wpAny _ _ (getAttr (Value.ref _) (Str.ofString "chunkSize") _) _ _ _); k_dflt (refine g_size (by assumption) (by k_asm) (by k_asm) ?N ?_; (case N => first | k_asm | exact News.tl (by k_asm) | exact News.tl (News.tl (by k_asm)) | exact News.tl (News.tl (News.tl (by k_asm))))); intro _)
  k_with "getAttr ref" => ((with_reducible show wpAny _ _ (getAttr (Value.ref _) (Str.ofString "chunkOffset") _) _ _ _); k_dflt (refine g_off (by assumption) (by k_asm) (by k_asm) ?N ?_; (case N => first | k_asm | exact News.tl (by k_asm) | exact News.tl (News.tl (by k_asm)) | exact News.tl (News.tl (News.tl (by k_asm))))); intro _)
  k_with "getAttr ref" => ((with_reducible show wpAny _ _ (getAttr (Value.ref _) (Str.ofString "prevNumLines") _) _ _ _); k_dflt (refine g_pl (by assumption) (by k_asm) (by k_asm) ?N ?_; (case N => first | k_asm | exact News.tl (by k_asm) | exact News.tl (News.tl (by k_asm)) | exact News.tl (News.tl (News.tl (by k_asm))))); intro _)
  k_with "getAttr ref" => ((with_reducible show wpAny _ _ (getAttr (Value.ref _) (Str.ofString "prevNumCols") _) _ _ _); k_dflt (refine g_pc (by assumption) (by k_asm) (by k_asm) ?N ?_; (case N => first | k_asm | exact News.tl (by k_asm) | exact News.tl (News.tl (by k_asm)) | exact News.tl (News.tl (News.tl (by k_asm))))); intro _)
  k_with "getAttr ref" => ((with_reducible show wpAny _ _ (getAttr (Value.ref _) (Str.ofString "errors") _) _ _ _); k_dflt (refine g_errors (by assumption) (by k_asm) (by k_asm) ?N ?_; (case N => first | k_asm | exact News.tl (by k_asm) | exact News.tl (News.tl (by k_asm)) | exact News.tl (News.tl (News.tl (by k_asm))))); intro _ hE1)
  k_with "getAttr ref" => ((with_reducible show wpAny _ _ (getAttr (Value.ref _) (Str.ofString "dataStream") _) _ _ _); k_dflt (refine g_stream (by assumption) (by k_asm) (by k_asm) ?N ?_; (case N => first | k_asm | exact News.tl (by k_asm) | exact News.tl (News.tl (by k_asm)) | exact News.tl (News.tl (News.tl (by k_asm))))); intro _ hT1)
  k_with "getAttr ref" => ((with_reducible show wpAny _ _ (getAttr (Value.ref _) (Str.ofString "_bufferedCharacter") _) _ _ _); k_dflt (refine g_buf (by assumption) (by k_asm) (by k_asm) ?N ?_; (case N => first | k_asm | exact News.tl (by k_asm) | exact News.tl (News.tl (by k_asm)) | exact News.tl (News.tl (News.tl (by k_asm))))); intro _ hB1; (try cases hB1))
  k_with "getAttr ref" => ((with_reducible show wpAny _ _ (getAttr (Value.ref _) (Str.ofString "reportCharacterErrors") _) _ _ _); k_dflt (refine g_rep (by assumption) (by k_asm) (by k_asm) ?N ?_; (case N => first | k_asm | exact News.tl (by k_asm) | exact News.tl (News.tl (by k_asm)) | exact News.tl (News.tl (News.tl (by k_asm))))); intro _ hR1)
  k_with "getAttr ref" => ((with_reducible show wpAny _ _ (getAttr (Value.ref _) (Str.ofString "_defaultChunkSize") _) _ _ _); k_dflt (refine g_dflt (by assumption) (by k_asm) (by k_asm) ?N ?_; (case N => first | k_asm | exact News.tl (by k_asm) | exact News.tl (News.tl (by k_asm)) | exact News.tl (News.tl (News.tl (by k_asm))))); intro _)
  k_with "getAttr ref" => ((with_reducible show wpAny _ _ (getAttr (Value.ref _) (Str.ofString "text") _) _ _ _); k_dflt (refine g_text (by assumption) (by assumption) (by k_asm) (by k_asm) ?N ?_; (case N => first | k_asm | exact News.tl (by k_asm) | exact News.tl (News.tl (by k_asm)) | exact News.tl (News.tl (News.tl (by k_asm))))); intro _)
  k_with "getAttr ref" => ((with_reducible show wpAny _ _ (getAttr (Value.ref _) (Str.ofString "place") _) _ _ _); k_dflt (refine g_place (by assumption) (by assumption) (by k_asm) (by k_asm) ?N ?_; (case N => first | k_asm | exact News.tl (by k_asm) | exact News.tl (News.tl (by k_asm)) | exact News.tl (News.tl (News.tl (by k_asm))))); intro _)
  k_with "setAttr ref" => ((with_reducible show wpAny _ _ (setAttr (Value.ref _) (Str.ofString "chunk") _) _ _ _); (with_reducible rename LedR _ _ _ _ _ _ _ _ _ _ _ _ _ _ => hLo); k_dflt (refine s_chunk hLo (by k_asm) (by k_asm) ?N ?_; (case N => first | k_asm | exact News.tl (by k_asm) | exact News.tl (News.tl (by k_asm)) | exact News.tl (News.tl (News.tl (by k_asm))))); intro h' n' F' N' hL'; (try k_sweep); clear hLo)
  k_with "setAttr ref" => ((with_reducible show wpAny _ _ (setAttr (Value.ref _) (Str.ofString "chunk") (Value.str (Str.ofString "") _)) _ _ _); (with_reducible rename LedR _ _ _ _ _ _ _ _ _ _ _ _ _ _ => hLo); k_dflt (refine s_chunk0 hLo (by k_asm) (by k_asm) ?N ?_; (case N => first | k_asm | exact News.tl (by k_asm) | exact News.tl (News.tl (by k_asm)) | exact News.tl (News.tl (News.tl (by k_asm))))); intro h' n' F' N' hL'; (try k_sweep); clear hLo)
  k_with "setAttr ref" => ((with_reducible show wpAny _ _ (setAttr (Value.ref _) (Str.ofString "chunkSize") _) _ _ _); (with_reducible rename LedR _ _ _ _ _ _ _ _ _ _ _ _ _ _ => hLo); k_dflt (refine s_size hLo (by k_asm) (by k_asm) ?N ?_; (case N => first | k_asm | exact News.tl (by k_asm) | exact News.tl (News.tl (by k_asm)) | exact News.tl (News.tl (News.tl (by k_asm))))); intro h' n' F' N' hL'; (try k_sweep); clear hLo)
  k_with "setAttr ref" => ((with_reducible show wpAny _ _ (setAttr (Value.ref _) (Str.ofString "chunkOffset") _) _ _ _); (with_reducible rename LedR _ _ _ _ _ _ _ _ _ _ _ _ _ _ => hLo); k_dflt (refine s_off hLo (by k_asm) (by k_asm) ?N ?_; (case N => first | k_asm | exact News.tl (by k_asm) | exact News.tl (News.tl (by k_asm)) | exact News.tl (News.tl (News.tl (by k_asm))))); intro h' n' F' N' hL'; (try k_sweep); clear hLo)
  k_with "setAttr ref" => ((with_reducible show wpAny _ _ (setAttr (Value.ref _) (Str.ofString "prevNumLines") _) _ _ _); (with_reducible rename LedR _ _ _ _ _ _ _ _ _ _ _ _ _ _ => hLo); k_dflt (refine s_pl hLo (by k_asm) (by k_asm) ?N ?_; (case N => first | k_asm | exact News.tl (by k_asm) | exact News.tl (News.tl (by k_asm)) | exact News.tl (News.tl (News.tl (by k_asm))))); intro h' n' F' N' hL'; (try k_sweep); clear hLo)
  k_with "setAttr ref" => ((with_reducible show wpAny _ _ (setAttr (Value.ref _) (Str.ofString "prevNumCols") _) _ _ _); (with_reducible rename LedR _ _ _ _ _ _ _ _ _ _ _ _ _ _ => hLo); k_dflt (refine s_pc hLo (by k_asm) (by k_asm) ?N ?_; (case N => first | k_asm | exact News.tl (by k_asm) | exact News.tl (News.tl (by k_asm)) | exact News.tl (News.tl (News.tl (by k_asm))))); intro h' n' F' N' hL'; (try k_sweep); clear hLo)
  k_with "setAttr ref" => ((with_reducible show wpAny _ _ (setAttr (Value.ref _) (Str.ofString "_bufferedCharacter") _) _ _ _); (with_reducible rename LedR _ _ _ _ _ _ _ _ _ _ _ _ _ _ => hLo); k_dflt (refine s_buf (by first | exact BufIs.none | exact BufIs.some | assumption) hLo (by k_asm) (by k_asm) ?N ?_; (case N => first | k_asm | exact News.tl (by k_asm) | exact News.tl (News.tl (by k_asm)) | exact News.tl (News.tl (News.tl (by k_asm))))); intro h' n' F' N' hL'; (try k_sweep); clear hLo)
  k_with "setAttr ref" => ((with_reducible show wpAny _ _ (setAttr (Value.ref _) (Str.ofString "place") _) _ _ _); (with_reducible rename LedR _ _ _ _ _ _ _ _ _ _ _ _ _ _ => hLo); k_dflt (refine s_place hLo (by assumption) (by k_asm) (by k_asm) ?N ?_; (case N => first | k_asm | exact News.tl (by k_asm) | exact News.tl (News.tl (by k_asm)) | exact News.tl (News.tl (News.tl (by k_asm))))); intro h' n' F' N' hL'; (try k_sweep); clear hLo)
  k_with "getMethod ref" => ((with_reducible show wpAny _ _ (getMethod (Value.ref _) (Str.ofString "_position") _) _ _ _); k_dflt (refine m_pos_ (by assumption) (by k_asm) (by k_asm) ?N ?_; (case N => first | k_asm | exact News.tl (by k_asm) | exact News.tl (News.tl (by k_asm)) | exact News.tl (News.tl (News.tl (by k_asm))))))
  k_with "getMethod ref" => ((with_reducible show wpAny _ _ (getMethod (Value.ref _) (Str.ofString "position") _) _ _ _); k_dflt (refine m_pos (by assumption) (by k_asm) (by k_asm) ?N ?_; (case N => first | k_asm | exact News.tl (by k_asm) | exact News.tl (News.tl (by k_asm)) | exact News.tl (News.tl (News.tl (by k_asm))))))
  k_with "getMethod ref" => ((with_reducible show wpAny _ _ (getMethod (Value.ref _) (Str.ofString "char") _) _ _ _); k_dflt (refine m_char (by assumption) (by k_asm) (by k_asm) ?N ?_; (case N => first | k_asm | exact News.tl (by k_asm) | exact News.tl (News.tl (by k_asm)) | exact News.tl (News.tl (News.tl (by k_asm))))))
  k_with "getMethod ref" => ((with_reducible show wpAny _ _ (getMethod (Value.ref _) (Str.ofString "readChunk") _) _ _ _); k_dflt (refine m_chunk (by assumption) (by k_asm) (by k_asm) ?N ?_; (case N => first | k_asm | exact News.tl (by k_asm) | exact News.tl (News.tl (by k_asm)) | exact News.tl (News.tl (News.tl (by k_asm))))))
  k_with "getMethod ref" => ((with_reducible show wpAny _ _ (getMethod (Value.ref _) (Str.ofString "unget") _) _ _ _); k_dflt (refine m_unget (by assumption) (by k_asm) (by k_asm) ?N ?_; (case N => first | k_asm | exact News.tl (by k_asm) | exact News.tl (News.tl (by k_asm)) | exact News.tl (News.tl (News.tl (by k_asm))))))
  k_with "getMethod ref" => ((with_reducible show wpAny _ _ (getMethod (Value.ref _) (Str.ofString "charsUntil") _) _ _ _); k_dflt (refine m_until (by assumption) (by k_asm) (by k_asm) ?N ?_; (case N => first | k_asm | exact News.tl (by k_asm) | exact News.tl (News.tl (by k_asm)) | exact News.tl (News.tl (News.tl (by k_asm))))))
  k_with "getMethod ref" => ((with_reducible show wpAny _ _ (getMethod (Value.ref _) (Str.ofString "read") _) _ _ _); k_dflt (refine m_read (by assumption) (by assumption) (by k_asm) (by k_asm) ?N ?_; (case N => first | k_asm | exact News.tl (by k_asm) | exact News.tl (News.tl (by k_asm)) | exact News.tl (News.tl (News.tl (by k_asm))))))
  k_with "getMethod ref" => ((with_reducible show wpAny _ _ (getMethod (Value.ref _) (Str.ofString "reportCharacterErrors") _) _ _ _); k_dflt (refine m_rep (by assumption) (by k_asm) (by k_asm) ?N ?_; (case N => first | k_asm | exact News.tl (by k_asm) | exact News.tl (News.tl (by k_asm)) | exact News.tl (News.tl (News.tl (by k_asm))))); intro _ hR1)
  k_with "getMethod ref" => ((with_reducible show wpAny _ _ (getMethod (Value.ref _) (Str.ofString "append") _) _ _ _); k_dflt (refine m_append (by assumption) (by assumption) (by k_asm) (by k_asm) ?N ?_; (case N => first | k_asm | exact News.tl (by k_asm) | exact News.tl (News.tl (by k_asm)) | exact News.tl (News.tl (News.tl (by k_asm))))))
  k_with "call builtin:list.append" => ((with_reducible rename LedR _ _ _ _ _ _ _ _ _ _ _ _ _ _ => hLo); k_dflt (refine app_err hLo (by assumption) (by k_asm) (by k_asm) ?N (by lia) ?_; (case N => first | k_asm | exact News.tl (by k_asm) | exact News.tl (News.tl (by k_asm)) | exact News.tl (News.tl (News.tl (by k_asm))))); intro h' n' F' N' hL'; (try k_sweep); clear hLo)
  k_with "call ref" => ((with_reducible show wpAny _ _ (call (Value.ref 157) _) _ _ _); k_dflt ((refine' Spec.useFet (fetched_at R st.cut st.place R.length st1.place _ _ _ _ (Nat.le_trans o1 (by decide)) d2 d3 _ d4) ?B ?F ?X ?N ?T ?hk ?hd ?hu ?_); (case B => k_asm); (case F => k_asm); (case X => k_asm); (case T => k_asm); (case hk => first | exact rfl | assumption); (case N => first | k_asm | exact News.tl (by k_asm) | exact News.tl (News.tl (by k_asm)) | exact News.tl (News.tl (News.tl (by k_asm)))); (case hd => ktr_room); (case hu => ktr_units); intro D8 ta8 tb8 tc8 h' tk' hlt' hle' F' N'; (try k_lt hlt'); (try dsimp only); (try k_fold)))
  k_with "call ref" => ((with_reducible show wpAny _ _ (call (Value.ref 98) _) _ _ _); (with_reducible rename LedR _ _ _ _ _ _ _ _ _ _ _ _ _ _ => hLo); k_dflt ((first | (refine' Spec.useS (char_some hc (char_spec (st := st) hLo o1 o2 o3 o4)) ?B ?F ?X ?N ?T ?hk ?hd ?hu ?_; (case B => k_asm); (case F => k_asm); (case X => k_asm); (case T => k_asm); (case hk => first | exact rfl | assumption); (case N => first | k_asm | exact News.tl (by k_asm) | exact News.tl (News.tl (by k_asm)) | exact News.tl (News.tl (News.tl (by k_asm)))); (case hd => ktr_room); (case hu => ktr_units); intro t' n' h' tk' hL' hle' F' N') | (refine' Spec.useV (char_none hc (char_spec (st := st) hLo o1 o2 o3 o4)) ?B ?F ?X ?N ?T ?hk ?hd ?hu ?_; (case B => k_asm); (case F => k_asm); (case X => k_asm); (case T => k_asm); (case hk => first | exact rfl | assumption); (case N => first | k_asm | exact News.tl (by k_asm) | exact News.tl (News.tl (by k_asm)) | exact News.tl (News.tl (News.tl (by k_asm)))); (case hd => ktr_room); (case hu => ktr_units); intro n' h' tk' hL' hle' F' N'));  (clear hLo); (unfold LedIs at hL'); (try dsimp only); (try k_fold)))
  k_with "compareOp NotEq str str" => ((with_reducible show wpAny _ _ (compareOp CmpOp.NotEq (Value.str (S _) _) (Value.str (S _) _)) _ _ _); k_dflt (refine ne_no rfl ?_))
  k_with "ite" => ((first | (with_reducible show if ((_ : Int) == _) = true then _ else _) | (with_reducible show if ((_ : Int) != _) = true then _ else _)); k_dflt (first | refine ite_pos (by simp only [beq_iff_eq, bne_iff_ne, ne_eq]; lia) ?_ | refine ite_neg (by simp only [beq_iff_eq, bne_iff_ne, ne_eq]; lia) ?_))
  k_with "call builtin:len" => ((with_reducible show wpAny _ _ (call (Value.builtin _) [Value.ref _]) _ _ _); (with_reducible rename LedR _ _ _ _ _ _ _ _ _ _ _ _ _ _ => hLo); k_dflt (refine len_sg (News.isList (by first | k_asm | exact News.tl (by k_asm)) (LedR.mem_rest hLo hg)) hS (Nat.le_trans (norm_len _) (Nat.le_trans hR (by decide))) ?_))
  k_with "subscriptTail" => ((with_reducible show wpAny _ _ (subscriptTail _ _ (Value.ref Dg) (Value.int _ _)) _ _ _); (with_reducible rename LedR _ _ _ _ _ _ _ _ _ _ _ _ _ _ => hLo); k_dflt (refine item_sg (News.isList (by first | k_asm | exact News.tl (by k_asm)) (LedR.mem_rest hLo hg)) hS (by lia) (by lia) (Nat.le_trans (norm_len _) (Nat.le_trans hR (by decide))) ?_); intro ti9; (rw [Int.toNat_natCast]))
  rcases hch with ⟨st1, hpl, hc, hi1, ho1, ⟨d1, d2, d3⟩ | ⟨d1, d2, d3, d4⟩⟩ | ⟨st1, hpl, hc, hi1, d1, d2, d3, d4⟩
  all_goals k_steps
  all_goals rename Fr _ _ _ _ => F9
  · exact hret _ _ _ st1 (p + 1) true _ ⟨⟨_, rfl⟩, rfl, rfl, ⟨_, int_eq (by lia)⟩, ⟨_, int_eq (by rw [d2])⟩, ⟨_, int_eq (by rw [d2])⟩, ⟨_, int_eq (by rw [d3])⟩, fun z a0 a1 a2 a3 a4 a5 a6 a7 a8 a9 => (by repeat (first | with_reducible rfl | refine (if_neg (by assumption)).trans ?_ | rfl))⟩ hi1 (fun _ => ⟨Nat.succ_pos _, ho1⟩) (by assumption) F9 (by first | assumption | exact News.tl (by assumption) | exact News.tl (News.tl (by assumption)) | exact News.tl (News.tl (News.tl (by assumption))))
  · exact hret _ _ _ st1 (p + 1) true _ ⟨⟨_, rfl⟩, rfl, rfl, ⟨_, int_eq (by lia)⟩, ⟨_, rfl⟩, ⟨_, rfl⟩, ⟨_, rfl⟩, fun z a0 a1 a2 a3 a4 a5 a6 a7 a8 a9 => (by repeat (first | with_reducible rfl | refine (if_neg (by assumption)).trans ?_ | rfl))⟩ hi1 (fun _ => ⟨Nat.succ_pos _, ho1⟩) (by assumption) F9 (by first | assumption | exact News.tl (by assumption) | exact News.tl (News.tl (by assumption)) | exact News.tl (News.tl (News.tl (by assumption))))
  · exact hret _ _ _ st1 p false _ ⟨⟨_, rfl⟩, rfl, rfl, ⟨_, int_eq (by lia)⟩, ⟨_, rfl⟩, ⟨_, rfl⟩, ⟨_, rfl⟩, fun z a0 a1 a2 a3 a4 a5 a6 a7 a8 a9 => (by repeat (first | with_reducible rfl | refine (if_neg (by assumption)).trans ?_ | rfl))⟩ hi1 (fun h => by cases h) (by assumption) F9 (by first | assumption | exact News.tl (by assumption) | exact News.tl (News.tl (by assumption)) | exact News.tl (News.tl (News.tl (by assumption))))
set_option maxRecDepth 100000 in
set_option maxHeartbeats 4000000 in
theorem b2b (hL : LedIs w R rest ad x st news) (hg : (Dg, W.listOf gs.toArray ng) ∈ rest) (hS : StrsAre gs (sg (norm R))) (hp : (Dp, W.listOf ws.toArray np) ∈ rest) (hP : PlOk (norm R) (norm R).length ws rest) (hr : Raw R) (hR : R.length ≤ 32) {p : Nat} (hi : InvG True R st p)
    (bd : Stmt) (tl : List Stmt) (sc : Scope) (hb : forB.drop 2 = bd :: tl) (hs : lawSc = sc) (k : Int) {t0 t1 t6 t7 t8 t9 tx : Tok} {u2 u3 u4 : Option Value} {vt vs : Value} {fh : Bool} (hf : fh = true → 0 < p ∧ 0 < st.off)
    (dp un : Nat) (gd : Option (List Code)) (a : Addr) (ccd : Value) (cl : List (Str × Addr)) (outer : List Env) (A₀ : Around) (base h₀ : Heap) (L : Addr) (s : Shared) (Q : Flow → Shared → Prop) (E : Value → Shared → Prop)
    (B : Below A₀ base outer h₀) (F : Fr h₀ L s.heap (fun y => if y = Str.ofString "n" then some (.int k t0) else if y = Str.ofString "way" then some (.int (k.fdiv 48) t1) else if y = Str.ofString "due" then u2 else if y = Str.ofString "inside" then u3 else if y = Str.ofString "end" then u4 else if y = Str.ofString "fresh" then some (.bool fh) else if y = Str.ofString "place" then some (.int (p : Int) t6) else if y = Str.ofString "until" then some (.int ((norm (R.take st.cut)).length : Int) t7) else if y = Str.ofString "start" then some (.int (st.cut : Int) t8) else if y = Str.ofString "taken" then some (.int (st.place : Int) t9) else base4 x Dp Dg R tx vt vs y))
    (X : (hd04.heap_39 w.params).In h₀) (N : News h₀ L s.heap news) (T : Top hd04.view_39 loose mean mg mb h₀) (hd : dp + 100 < recursionLimit) (hu : un + 800 < cLine) (hE : PassesOwn (model PySem.Challenge.pw_te0074_04 w) (ktrTop dp un gd (Str.ofString "law") sc L a ccd cl outer) (envOf (Str.ofString "law") sc L a ccd) E)
    (hw : (k.fdiv 12).fmod 4 = 3) (hret : ∀ h' tk' m' (st' : St) (p' : Nat) (fh' : Bool) nw', FrC x Dp Dg R tx vt vs k (some (.int (k.fdiv 48) t1)) st' p' fh' m' → InvG True R st' p' → (fh' = true → 0 < p' ∧ 0 < st'.off) → LedIs w R rest ad x st' nw' → Fr h₀ L h' m' → News h₀ L h' nw' → Q .next { s with heap := h', toks := tk' }) :
    wpAny (model PySem.Challenge.pw_te0074_04 w) (ktrTop dp un gd (Str.ofString "law") sc L a ccd cl outer) (exec bd (envOf (Str.ofString "law") sc L a ccd)) Q E s := by
  conv at hb => lhs; whnf
  conv at hs => lhs; whnf
  cases hb
  subst hs
  have hple := invG_le hi
  have hnl := norm_len R
  obtain ⟨o1, o2, o3, o4, o5⟩ := invG_ok hi hr.len
  have hbk : fh = true → ∃ q, p = q + 1 ∧ 0 < st.off := fun h => ⟨p - 1, by have := (hf h).1; lia, (hf h).2⟩
  unfold LedIs at hL
  k_with_none
  k_with "tb" => (first | assumption | (apply le3; assumption; exact rfl) | lia | (simp only [List.length_append, List.length_cons, List.length_nil, List.length_take, List.length_drop, List.length_dropLast, crs_len, partOf_len] at *; lia) | ((with_reducible refine Nat.le_trans (crlf_len _) ?_); tb_start) | ((with_reducible refine Nat.le_trans (split_len _) ?_); tb_start) | ((with_reducible refine Nat.le_trans (norm_len _) ?_); tb_start))
  k_with "call builtin:str.count" => (refine count4 (by decide +kernel) (by first | assumption | lia) ?_)
  k_with "call builtin:str.rfind" => (refine rfind4 (by decide +kernel) (by first | assumption | lia) ?_)
  k_with "call builtin:str.replace" => ((try dsimp only at *); k_dflt (refine repl_crlf_S (by decide +kernel) (by decide +kernel) (by k_ne) (by k_ne) (by k_ne) (by tb_start) ?_); intro _ _ _)
  k_with "call builtin:str.replace" => ((try dsimp only at *); k_dflt (refine repl_cr_S (by decide +kernel) (by decide +kernel) (by k_ne) (by k_ne) (by k_ne) (by tb_start) ?_); intro _ _ _)
  k_with "call builtin:len" => ((with_reducible show wpAny _ _ (call (Value.builtin "len") [Value.str (S _) _]) _ _ _); refine len_S (by tb_start) ?_)
  k_with "call builtin:ord" => ((with_reducible show wpAny _ _ (call (Value.builtin "ord") [Value.str (S _) _]) _ _ _); refine ord_S ?_)
  k_with "binaryOp Add str str" => ((with_reducible show wpAny _ _ (binaryOp Operator.Add (Value.str (S _) _) (Value.str (S _) _)) _ _ _); refine add_S (by tb_start) ?_; intro _ _)
  k_with "inplaceOp Add str str" => ((with_reducible show wpAny _ _ (inplaceOp Operator.Add (Value.str (S _) _) (Value.str (S _) _)) _ _ _); refine iadd_S (by tb_start) ?_; intro _ _)
  k_with "truthy str" => ((with_reducible show wpAny _ _ (truthy (Value.str (S _) _)) _ _ _); refine truthy_S (by tb_start) ?_)
  k_with "compareOp Eq str str" => ((with_reducible show wpAny _ _ (compareOp CmpOp.Eq (Value.str (S _) _) (Value.str (S _) _)) _ _ _); refine eq_S ?_)
  k_with "compareOp NotEq str str" => ((with_reducible show wpAny _ _ (compareOp CmpOp.NotEq (Value.str (S _) _) (Value.str (S _) _)) _ _ _); refine ne_S ?_)
  k_with "subscriptTail Name Slice str ref" => (k_here; (with_reducible rename Fr _ _ _ _ => F'); (with_reducible rename News _ _ _ _ => N'); k_dflt (refine drop_S (s := ⟨_, _, _, _, _⟩) F' N' (by tb_start) ?_); intro _ _ _ _ _; (try k_sweep))
  k_with "subscriptTail Name Slice str ref" => (k_here; (with_reducible rename Fr _ _ _ _ => F'); (with_reducible rename News _ _ _ _ => N'); k_dflt (refine take_S (s := ⟨_, _, _, _, _⟩) F' N' (by tb_start) ?_); intro _ _ _ _ _; (try k_sweep))
  k_with "subscriptTail Name Slice str ref" => (k_here; (with_reducible rename Fr _ _ _ _ => F'); (with_reducible rename News _ _ _ _ => N'); k_dflt (refine mid_S (s := ⟨_, _, _, _, _⟩) F' N' (by tb_start) ?_); intro _ _ _ _ _; (try k_sweep))
  k_with "subscriptTail Name Slice str ref" => (k_here; (with_reducible rename Fr _ _ _ _ => F'); (with_reducible rename News _ _ _ _ => N'); k_dflt (refine part_S (s := ⟨_, _, _, _, _⟩) F' N' (by tb_start) ?_); intro _ _ _ _ _; (try k_sweep))
  k_with "subscriptTail Name Slice str ref" => (k_here; (with_reducible rename Fr _ _ _ _ => F'); (with_reducible rename News _ _ _ _ => N'); k_dflt (refine init_S (s := ⟨_, _, _, _, _⟩) F' N' (by tb_start) ?_); intro _ _ _ _ _; (try k_sweep))
  k_with "subscriptTail Name UnaryOp str int" => (k_here; (with_reducible show wpAny _ _ (subscriptTail _ _ (Value.str (S _) _) (Value.int _ _)) _ _ _); k_dflt (first | (refine last_S (by first | assumption | (intro hz; simp only [hz, List.length_nil] at *; lia)) (by tb_start) ?_) | (refine item_S (by first | assumption | lia | k_extra "my item") (by tb_start) ?_)))
  k_with "subscriptTail Name Name str int" => (k_here; (with_reducible show wpAny _ _ (subscriptTail _ _ (Value.str (S _) _) (Value.int _ _)) _ _ _); first | (with_reducible refine item_S (by k_dflt (first | assumption | lia | k_extra "my item")) (by k_dflt tb_start) ?_) | k_dflt (refine item_Si (by lia) (by first | lia | k_extra "my item") (by tb_start) ?_))
  k_with "subscriptTail Name Constant str int" => (k_here; (with_reducible show wpAny _ _ (subscriptTail _ _ (Value.str (S _) _) (Value.int _ _)) _ _ _); first | (with_reducible refine item_S (by k_dflt (first | assumption | lia | k_extra "my item")) (by k_dflt tb_start) ?_) | k_dflt (refine item_Si (by lia) (by first | lia | k_extra "my item") (by tb_start) ?_))
  k_with "subscriptTail Name BinOp str int" => (k_here; (with_reducible show wpAny _ _ (subscriptTail _ _ (Value.str (S _) _) (Value.int _ _)) _ _ _); first | (with_reducible refine item_S (by k_dflt (first | assumption | lia | k_extra "my item")) (by k_dflt tb_start) ?_) | k_dflt (refine item_Si (by lia) (by first | lia | k_extra "my item") (by tb_start) ?_))
  k_with "subscriptTail Attribute Name str int" => (k_here; (with_reducible show wpAny _ _ (subscriptTail _ _ (Value.str (S _) _) (Value.int _ _)) _ _ _); first | (with_reducible refine item_S (by k_dflt (first | assumption | lia | k_extra "my item")) (by k_dflt tb_start) ?_) | k_dflt (refine item_Si (by lia) (by first | lia | k_extra "my item") (by tb_start) ?_))
  k_with "subscriptTail Attribute Constant str int" => (k_here; (with_reducible show wpAny _ _ (subscriptTail _ _ (Value.str (S _) _) (Value.int _ _)) _ _ _); first | (with_reducible refine item_S (by k_dflt (first | assumption | lia | k_extra "my item")) (by k_dflt tb_start) ?_) | k_dflt (refine item_Si (by lia) (by first | lia | k_extra "my item") (by tb_start) ?_))
  k_with "subscriptTail Attribute Attribute str int" => (k_here; (with_reducible show wpAny _ _ (subscriptTail _ _ (Value.str (S _) _) (Value.int _ _)) _ _ _); first | (with_reducible refine item_S (by k_dflt (first | assumption | lia | k_extra "my item")) (by k_dflt tb_start) ?_) | k_dflt (refine item_Si (by lia) (by first | lia | k_extra "my item") (by tb_start) ?_))
  k_with "truthy ref" => (k_here; k_dflt (refine' truthy_meth ?N ?q ?_; (case N => k_asm); (case q => k_mem); k_whole))
  k_with "exec For Name Name cons nil" => (k_here; (with_reducible rename Fr _ _ _ _ => lF'); k_dflt (refine' For_invVF lF' ?k1 ?k2 ?_; (case k1 => exact rfl); (case k2 => exact rfl); k_whole))
  k_with "exec For Name Subscript cons nil" => (k_here; (with_reducible rename Fr _ _ _ _ => lF'); k_dflt (refine' For_invVF lF' ?k1 ?k2 ?_; (case k1 => exact rfl); (case k2 => exact rfl); k_whole))
  k_with "all" => (refine List.forall_mem_append.mpr ⟨?a, ?b⟩; (case a => k_all); (case b => k_all))
  k_with "rel" => (simp only [List.size_toArray]; rw [PySem.sizeLine_eq]; lia)
  k_with "call builtin:list.append" => (k_here; (with_reducible show wpAny _ _ (call (Value.builtin _) [Value.ref _, _]) _ _ _); k_dflt (refine' append_K ?k1 ?k2 ?k3 ?_ ?z; (case k1 => k_asm); (case k2 => k_asm); (case k3 => k_upd); (case z => tb_rel); k_whole); intro h' F' N'; (try simp only [List.push_toArray] at N'); (try k_sweep))
  k_with "enter" => (refine' code_def ?k1 ?k2 ?k3 ?k4 ?k5 ?kA ?kF ?kK ?k6 ?k7 ?k8 ?k9 ?kB ?_ ?c2 ?c3 ?c4 ?c5; (case kA => exact rfl); (case kF => exact rfl); (case kK => assumption); (case k1 => k_asm); (case k2 => k_asm); (case k3 => k_asm); (case k4 => k_asm); (case k5 => k_asm); (case k6 => k_is); (case k7 => k_is); (case k8 => ktr_room); (case k9 => first | exact BindsTo.of_eq rfl | exact binds_K (by k_in) rfl (by k_is) rfl rfl rfl); (case c5 => decide); (case kB => exact locs rfl); (case c2 => exact rfl); (case c3 => exact rfl); (case c4 => exact rfl); k_whole; intro g' L' h' FG' F' N' B' X' T'; (try dsimp only); (try k_lift B'); (try k_fold))
  k_with "JoinP" => (dsimp only [JoinP])
  k_with "subscriptTail" => (k_here; (with_reducible show wpAny _ _ (subscriptTail _ _ (Value.str (S _) _) (Value.int _ _)) _ _ _); first | (with_reducible refine item_S (by k_dflt (first | assumption | lia | k_extra "my item")) (by k_dflt tb_start) ?_) | k_dflt (refine item_Si (by lia) (by first | lia | k_extra "my item") (by tb_start) ?_))
  k_with "compareOp Eq str str" => ((with_reducible show wpAny _ _ (compareOp CmpOp.Eq (Value.str (S _) _) (Value.str (Str.ofString _) _)) _ _ _); k_dflt (first | refine eq_lit [13] (by decide +kernel) ?_ | refine eq_lit [10] (by decide +kernel) ?_))
  k_with "compareOp NotEq str str" => ((with_reducible show wpAny _ _ (compareOp CmpOp.NotEq (Value.str (S _) _) (Value.str (Str.ofString _) _)) _ _ _); k_dflt (first | refine ne_lit [13] (by decide +kernel) ?_ | refine ne_lit [10] (by decide +kernel) ?_))
  k_with "inplaceOp Add str str" => ((with_reducible show wpAny _ _ (inplaceOp Operator.Add (Value.str (S _) _) (Value.str (Str.ofString _) _)) _ _ _); k_dflt (refine iadd_lit [10] (by decide +kernel) (by tb_start) ?_); intro _ _)
  k_with "room" => (k_dflt ((first | apply room4 | apply room3 | apply room2 | apply room1 | apply room0 | apply roomz); assumption; exact rfl))
  k_with "getAttr ref" => ((with_reducible show wpAny _ _ (getAttr (Value.ref _) (Str.ofString "chunk") _) _ _ _); k_dflt (refine g_chunk (by assumption) (by k_asm) (by k_asm) ?N ?_; (case N => first | k_asm | exact News.tl (by k_asm) | exact News.tl (News.tl (by k_asm)) | exact News.tl (News.tl (News.tl (by k_asm))))); intro _)
  k_with "getAttr ref" => ((with_reducible show wpAny _ _ (getAttr (Value.ref _) (Str.ofString "chunkSize") _) _ _ _); k_dflt (refine g_size (by assumption) (by k_asm) (by k_asm) ?N ?_; (case N => first | k_asm | exact News.tl (by k_asm) | exact News.tl (News.tl (by k_asm)) | exact News.tl (News.tl (News.tl (by k_asm))))); intro _)
  k_with "getAttr ref" => ((with_reducible show wpAny _ _ (getAttr (Value.ref _) (Str.ofString "chunkOffset") _) _ _ _); k_dflt (refine g_off (by assumption) (by k_asm) (by k_asm) ?N ?_; (case N => first | k_asm | exact News.tl (by k_asm) | exact News.tl (News.tl (by k_asm)) | exact News.tl (News.tl (News.tl (by k_asm))))); intro _)
  k_with "getAttr ref" => ((with_reducible show wpAny _ _ (getAttr (Value.ref _) (Str.ofString "prevNumLines") _) _ _ _); k_dflt (refine g_pl (by assumption) (by k_asm) (by k_asm) ?N ?_; (case N => first | k_asm | exact News.tl (by k_asm) | exact News.tl (News.tl (by k_asm)) | exact News.tl (News.tl (News.tl (by k_asm))))); intro _)
  k_with "getAttr ref" => ((with_reducible show wpAny _ _ (getAttr (Value.ref _) (Str.ofString "prevNumCols") _) _ _ _); k_dflt (refine g_pc (by assumption) (by k_asm) (by k_asm) ?N ?_; (case N => first | k_asm | exact News.tl (by k_asm) | exact News.tl (News.tl (by k_asm)) | exact News.tl (News.tl (News.tl (by k_asm))))); intro _)
  k_with "getAttr ref" => ((with_reducible show wpAny _ _ (getAttr (Value.ref _) (Str.ofString "errors") _) _ _ _); k_dflt (refine g_errors (by assumption) (by k_asm) (by k_asm) ?N ?_; (case N => first | k_asm | exact News.tl (by k_asm) | exact News.tl (News.tl (by k_asm)) | exact News.tl (News.tl (News.tl (by k_asm))))); intro _ hE1)
  k_with "getAttr ref" => ((with_reducible show wpAny _ _ (getAttr (Value.ref _) (Str.ofString "dataStream") _) _ _ _); k_dflt (refine g_stream (by assumption) (by k_asm) (by k_asm) ?N ?_; (case N => first | k_asm | exact News.tl (by k_asm) | exact News.tl (News.tl (by k_asm)) | exact News.tl (News.tl (News.tl (by k_asm))))); intro _ hT1)
  k_with "getAttr ref" => ((with_reducible show wpAny _ _ (getAttr (Value.ref _) (Str.ofString "_bufferedCharacter") _) _ _ _); k_dflt (refine g_buf (by assumption) (by k_asm) (by k_asm) ?N ?_; (case N => first | k_asm | exact News.tl (by k_asm) | exact News.tl (News.tl (by k_asm)) | exact News.tl (News.tl (News.tl (by k_asm))))); intro _ hB1; (try cases hB1))
  k_with "getAttr ref" => ((with_reducible show wpAny _ _ (getAttr (Value.ref _) (Str.ofString "reportCharacterErrors") _) _ _ _); k_dflt (refine g_rep (by assumption) (by k_asm) (by k_asm) ?N ?_; (case N => first | k_asm | exact News.tl (by k_asm) | exact News.tl (News.tl (by k_asm)) | exact News.tl (News.tl (News.tl (by k_asm))))); intro _ hR1)
  k_with "getAttr ref" => ((with_reducible show wpAny _ _ (getAttr (Value.ref _) (Str.ofString "_defaultChunkSize") _) _ _ _); k_dflt (refine g_dflt (by assumption) (by k_asm) (by k_asm) ?N ?_; (case N => first | k_asm | exact News.tl (by k_asm) | exact News.tl (News.tl (by k_asm)) | exact News.tl (News.tl (News.tl (by k_asm))))); intro _)
  k_with "getAttr ref" => ((with_reducible show wpAny _ _ (getAttr (Value.ref _) (Str.ofString "text") _) _ _ _); k_dflt (refine g_text (by assumption) (by assumption) (by k_asm) (by k_asm) ?N ?_; (case N => first | k_asm | exact News.tl (by k_asm) | exact News.tl (News.tl (by k_asm)) | exact News.tl (News.tl (News.tl (by k_asm))))); intro _)
  k_with "getAttr ref" => ((with_reducible show wpAny _ _ (getAttr (Value.ref _) (Str.ofString "place") _) _ _ _); k_dflt (refine g_place (by assumption) (by assumption) (by k_asm) (by k_asm) ?N ?_; (case N => first | k_asm | exact News.tl (by k_asm) | exact News.tl (News.tl (by k_asm)) | exact News.tl (News.tl (News.tl (by k_asm))))); intro _)
  k_with "setAttr ref" => ((with_reducible show wpAny _ _ (setAttr (Value.ref _) (Str.ofString "chunk") _) _ _ _); (with_reducible rename LedR _ _ _ _ _ _ _ _ _ _ _ _ _ _ => hLo); k_dflt (refine s_chunk hLo (by k_asm) (by k_asm) ?N ?_; (case N => first | k_asm | exact News.tl (by k_asm) | exact News.tl (News.tl (by k_asm)) | exact News.tl (News.tl (News.tl (by k_asm))))); intro h' n' F' N' hL'; (try k_sweep); clear hLo)
  k_with "setAttr ref" => ((with_reducible show wpAny _ _ (setAttr (Value.ref _) (Str.ofString "chunk") (Value.str (Str.ofString "") _)) _ _ _); (with_reducible rename LedR _ _ _ _ _ _ _ _ _ _ _ _ _ _ => hLo); k_dflt (refine s_chunk0 hLo (by k_asm) (by k_asm) ?N ?_; (case N => first | k_asm | exact News.tl (by k_asm) | exact News.tl (News.tl (by k_asm)) | exact News.tl (News.tl (News.tl (by k_asm))))); intro h' n' F' N' hL'; (try k_sweep); clear hLo)
  k_with "setAttr ref" => ((with_reducible show wpAny _ _ (setAttr (Value.ref _) (Str.ofString "chunkSize") _) _ _ _); (with_reducible rename LedR _ _ _ _ _ _ _ _ _ _ _ _ _ _ => hLo); k_dflt (refine s_size hLo (by k_asm) (by k_asm) ?N ?_; (case N => first | k_asm | exact News.tl (by k_asm) | exact News.tl (News.tl (by k_asm)) | exact News.tl (News.tl (News.tl (by k_asm))))); intro h' n' F' N' hL'; (try k_sweep); clear hLo)
  k_with "setAttr ref" => ((with_reducible show wpAny _ _ (setAttr (Value.ref _) (Str.ofString "chunkOffset") _) _ _ _); (with_reducible rename LedR _ _ _ _ _ _ _ _ _ _ _ _ _ _ => hLo); k_dflt (refine s_off hLo (by k_asm) (by k_asm) ?N ?_; (case N => first | k_asm | exact News.tl (by k_asm) | exact News.tl (News.tl (by k_asm)) | exact News.tl (News.tl (News.tl (by k_asm))))); intro h' n' F' N' hL'; (try k_sweep); clear hLo)
  k_with "setAttr ref" => ((with_reducible show wpAny _ _ (setAttr (Value.ref _) (Str.ofString "prevNumLines") _) _ _ _); (with_reducible rename LedR _ _ _ _ _ _ _ _ _ _ _ _ _ _ => hLo); k_dflt (refine s_pl hLo (by k_asm) (by k_asm) ?N ?_; (case N => first | k_asm | exact News.tl (by k_asm) | exact News.tl (News.tl (by k_asm)) | exact News.tl (News.tl (News.tl (by k_asm))))); intro h' n' F' N' hL'; (try k_sweep); clear hLo)
  k_with "setAttr ref" => ((with_reducible show wpAny _ _ (setAttr (Value.ref _) (Str.ofString "prevNumCols") _) _ _ _); (with_reducible rename LedR _ _ _ _ _ _ _ _ _ _ _ _ _ _ => hLo); k_dflt (refine s_pc hLo (by k_asm) (by k_asm) ?N ?_; (case N => first | k_asm | exact News.tl (by k_asm) | exact News.tl (News.tl (by k_asm)) | exact News.tl (News.tl (News.tl (by k_asm))))); intro h' n' F' N' hL'; (try k_sweep); clear hLo)
  k_with "setAttr ref" => ((with_reducible show wpAny _ _ (setAttr (Value.ref _) (Str.ofString "_bufferedCharacter") _) _ _ _); (with_reducible rename LedR _ _ _ _ _ _ _ _ _ _ _ _ _ _ => hLo); k_dflt (refine s_buf (by first | exact BufIs.none | exact BufIs.some | assumption) hLo (by k_asm) (by k_asm) ?N ?_; (case N => first | k_asm | exact News.tl (by k_asm) | exact News.tl (News.tl (by k_asm)) | exact News.tl (News.tl (News.tl (by k_asm))))); intro h' n' F' N' hL'; (try k_sweep); clear hLo)
  k_with "setAttr ref" => ((with_reducible show wpAny _ _ (setAttr (Value.ref _) (Str.ofString "place") _) _ _ _); (with_reducible rename LedR _ _ _ _ _ _ _ _ _ _ _ _ _ _ => hLo); k_dflt (refine s_place hLo (by assumption) (by k_asm) (by k_asm) ?N ?_; (case N => first | k_asm | exact News.tl (by k_asm) | exact News.tl (News.tl (by k_asm)) | exact News.tl (News.tl (News.tl (by k_asm))))); intro h' n' F' N' hL'; (try k_sweep); clear hLo)
  k_with "getMethod ref" => ((with_reducible show wpAny _ _ (getMethod (Value.ref _) (Str.ofString "_position") _) _ _ _); k_dflt (refine m_pos_ (by assumption) (by k_asm) (by k_asm) ?N ?_; (case N => first | k_asm | exact News.tl (by k_asm) | exact News.tl (News.tl (by k_asm)) | exact News.tl (News.tl (News.tl (by k_asm))))))
  k_with "getMethod ref" => ((with_reducible show wpAny _ _ (getMethod (Value.ref _) (Str.ofString "position") _) _ _ _); k_dflt (refine m_pos (by assumption) (by k_asm) (by k_asm) ?N ?_; (case N => first | k_asm | exact News.tl (by k_asm) | exact News.tl (News.tl (by k_asm)) | exact News.tl (News.tl (News.tl (by k_asm))))))
  k_with "getMethod ref" => ((with_reducible show wpAny _ _ (getMethod (Value.ref _) (Str.ofString "char") _) _ _ _); k_dflt (refine m_char (by assumption) (by k_asm) (by k_asm) ?N ?_; (case N => first | k_asm | exact News.tl (by k_asm) | exact News.tl (News.tl (by k_asm)) | exact News.tl (News.tl (News.tl (by k_asm))))))
  k_with "getMethod ref" => ((with_reducible show wpAny _ _ (getMethod (Value.ref _) (Str.ofString "readChunk") _) _ _ _); k_dflt (refine m_chunk (by assumption) (by k_asm) (by k_asm) ?N ?_; (case N => first | k_asm | exact News.tl (by k_asm) | exact News.tl (News.tl (by k_asm)) | exact News.tl (News.tl (News.tl (by k_asm))))))
  k_with "getMethod ref" => ((with_reducible show wpAny _ _ (getMethod (Value.ref _) (Str.ofString "unget") _) _ _ _); k_dflt (refine m_unget (by assumption) (by k_asm) (by k_asm) ?N ?_; (case N => first | k_asm | exact News.tl (by k_asm) | exact News.tl (News.tl (by k_asm)) | exact News.tl (News.tl (News.tl (by k_asm))))))
  k_with "getMethod ref" => ((with_reducible show wpAny _ _ (getMethod (Value.ref _) (Str.ofString "charsUntil") _) _ _ _); k_dflt (refine m_until (by assumption) (by k_asm) (by k_asm) ?N ?_; (case N => first | k_asm | exact News.tl (by k_asm) | exact News.tl (News.tl (by k_asm)) | exact News.tl (News.tl (News.tl (by k_asm))))))
  k_with "getMethod ref" => ((with_reducible show wpAny _ _ (getMethod (Value.ref _) (Str.ofString "read") _) _ _ _); k_dflt (refine m_read (by assumption) (by assumption) (by k_asm) (by k_asm) ?N ?_; (case N => first | k_asm | exact News.tl (by k_asm) | exact News.tl (News.tl (by k_asm)) | exact News.tl (News.tl (News.tl (by k_asm))))))
  k_with "getMethod ref" => ((with_reducible show wpAny _ _ (getMethod (Value.ref _) (Str.ofString "reportCharacterErrors") _) _ _ _); k_dflt (refine m_rep (by assumption) (by k_asm) (by k_asm) ?N ?_; (case N => first | k_asm | exact News.tl (by k_asm) | exact News.tl (News.tl (by k_asm)) | exact News.tl (News.tl (News.tl (by k_asm))))); intro _ hR1)
  k_with "getMethod ref" => ((with_reducible show wpAny _ _ (getMethod (Value.ref _) (Str.ofString "append") _) _ _ _); k_dflt (refine m_append (by assumption) (by assumption) (by k_asm) (by k_asm) ?N ?_; (case N => first | k_asm | exact News.tl (by k_asm) | exact News.tl (News.tl (by k_asm)) | exact News.tl (News.tl (News.tl (by k_asm))))))
  k_with "call builtin:list.append" => ((with_reducible rename LedR _ _ _ _ _ _ _ _ _ _ _ _ _ _ => hLo); k_dflt (refine app_err hLo (by assumption) (by k_asm) (by k_asm) ?N (by lia) ?_; (case N => first | k_asm | exact News.tl (by k_asm) | exact News.tl (News.tl (by k_asm)) | exact News.tl (News.tl (News.tl (by k_asm))))); intro h' n' F' N' hL'; (try k_sweep); clear hLo)
  k_with "call ref" => ((with_reducible show wpAny _ _ (call (Value.ref 128) [_, Value.str _ _]) _ _ _); (with_reducible rename LedR _ _ _ _ _ _ _ _ _ _ _ _ _ _ => hLo); k_dflt ((refine' Spec.useV (unget_spec (st := st) hLo ((norm R).getD q 0) _ o3 o5 hb2) ?B ?F ?X ?N ?T ?hk ?hd ?hu ?_); (case B => k_asm); (case F => k_asm); (case X => k_asm); (case T => k_asm); (case hk => first | exact rfl | assumption); (case N => first | k_asm | exact News.tl (by k_asm) | exact News.tl (News.tl (by k_asm)) | exact News.tl (News.tl (News.tl (by k_asm)))); (case hd => ktr_room); (case hu => ktr_units); intro n' h' tk' hL' hle' F' N'; (clear hLo); (unfold LedIs at hL'); (try dsimp only); (try k_fold)))
  k_with "call ref" => ((with_reducible show wpAny _ _ (call (Value.ref 128) [_, Value.none]) _ _ _); (with_reducible rename LedR _ _ _ _ _ _ _ _ _ _ _ _ _ _ => hLo); k_dflt ((refine' Spec.useV (unget_none_spec (st := st) hLo) ?B ?F ?X ?N ?T ?hk ?hd ?hu ?_); (case B => k_asm); (case F => k_asm); (case X => k_asm); (case T => k_asm); (case hk => first | exact rfl | assumption); (case N => first | k_asm | exact News.tl (by k_asm) | exact News.tl (News.tl (by k_asm)) | exact News.tl (News.tl (News.tl (by k_asm)))); (case hd => ktr_room); (case hu => ktr_units); intro n' h' tk' hL' hle' F' N'; (clear hLo); (unfold LedIs at hL'); (try dsimp only); (try k_fold)))
  k_with "ite" => ((first | (with_reducible show if ((_ : Int) == _) = true then _ else _) | (with_reducible show if ((_ : Int) != _) = true then _ else _)); k_dflt (first | refine ite_pos (by simp only [beq_iff_eq, bne_iff_ne, ne_eq]; lia) ?_ | refine ite_neg (by simp only [beq_iff_eq, bne_iff_ne, ne_eq]; lia) ?_))
  k_with "subscriptTail" => ((with_reducible show wpAny _ _ (subscriptTail _ _ (Value.ref Dg) (Value.int _ _)) _ _ _); (with_reducible rename LedR _ _ _ _ _ _ _ _ _ _ _ _ _ _ => hLo); k_dflt (refine item_sg (News.isList (by first | k_asm | exact News.tl (by k_asm)) (LedR.mem_rest hLo hg)) hS (by lia) (by lia) (Nat.le_trans (norm_len _) (Nat.le_trans hR (by decide))) ?_); intro ti9; (rw [hq1]))
  cases fh
  rotate_left
  obtain ⟨q, rfl, hof⟩ := hbk rfl
  obtain ⟨hb1, hb2⟩ := back4 hi hof
  have hq1 : (((q + 1 : Nat) : Int) - 1).toNat = q := by lia
  all_goals k_steps
  all_goals rename Fr _ _ _ _ => F9
  · exact hret _ _ _ (st.unget ((norm R).getD q 0)) q false _ ⟨⟨_, rfl⟩, rfl, rfl, ⟨_, int_eq (by lia)⟩, ⟨_, int_eq (by rw [unget_cut])⟩, ⟨_, int_eq (by rw [unget_cut])⟩, ⟨_, int_eq (by rw [unget_place])⟩, fun z a0 a1 a2 a3 a4 a5 a6 a7 a8 a9 => (by repeat (first | with_reducible rfl | refine (if_neg (by assumption)).trans ?_ | rfl))⟩ hb1 (fun h => by cases h) (by assumption) F9 (by first | assumption | exact News.tl (by assumption) | exact News.tl (News.tl (by assumption)) | exact News.tl (News.tl (News.tl (by assumption))))
  · exact hret _ _ _ st p false _ ⟨⟨_, rfl⟩, rfl, rfl, ⟨_, int_eq (by lia)⟩, ⟨_, rfl⟩, ⟨_, rfl⟩, ⟨_, rfl⟩, fun z a0 a1 a2 a3 a4 a5 a6 a7 a8 a9 => (by repeat (first | with_reducible rfl | refine (if_neg (by assumption)).trans ?_ | rfl))⟩ hi (fun h => by cases h) (by assumption) F9 (by first | assumption | exact News.tl (by assumption) | exact News.tl (News.tl (by assumption)) | exact News.tl (News.tl (News.tl (by assumption))))
end
theorem sub_cons {p : Addr × Obj} {news nw : List (Addr × Obj)} (hm : p ∈ nw) (h : ∀ z ∈ news, z ∈ nw) : ∀ z ∈ p :: news, z ∈ nw := fun z hz => by
  rcases List.mem_cons.mp hz with rfl | hz
  · exact hm
  · exact h z hz
inductive GJ (w : World) (R : List Nat) (e : Nat) (rest : List (Addr × Obj)) (ad : List Nat) (x : Nat) (st : St) (m₀ : Str → Option Value) (n : Nat) (m' : Str → Option Value) (nx : List (Addr × Obj)) : Prop
  | mk (c t : Nat) (ta tb tc : Tok) (hn : n = R.length - c) (hc : c ≤ R.length) (hg : Goes R e c t st.cut st.place) (hm : m' = fun z => if z = Str.ofString "until" then some (.int ((norm (R.take c)).length : Int) ta) else if z = Str.ofString "taken" then some (.int (t : Int) tb) else if z = Str.ofString "start" then some (.int (c : Int) tc) else m₀ z) (hL : LedIs w R rest ad x st nx)
theorem GJ.of {w : World} {R : List Nat} {e : Nat} {rest : List (Addr × Obj)} {ad : List Nat} {x : Nat} {st : St} {m₀ : Str → Option Value} {n : Nat} {m' : Str → Option Value} {nx : List (Addr × Obj)} (c t : Nat) (hn : n = R.length - c) (hc : c ≤ R.length) (hg : Goes R e c t st.cut st.place)
    (hm : ∃ ta tb tc : Tok, m' = fun z => if z = Str.ofString "until" then some (.int ((norm (R.take c)).length : Int) ta) else if z = Str.ofString "taken" then some (.int (t : Int) tb) else if z = Str.ofString "start" then some (.int (c : Int) tc) else m₀ z) (hL : LedIs w R rest ad x st nx) : GJ w R e rest ad x st m₀ n m' nx := by
  obtain ⟨ta, tb, tc, hm⟩ := hm
  exact ⟨c, t, ta, tb, tc, hn, hc, hg, hm, hL⟩
section
variable {w : World} {mean : ExcName → Option Value} {mg mb : Str → Option Value} {R : List Nat} {rest : List (Addr × Obj)} {ad : List Nat} {x : Nat} {ck : List Nat} {sz of : Int} {er : Nat} {pl pc : Int} {bf : Option Nat} {pla : Int} {news : List (Addr × Obj)}
theorem stops_at (_hL : LedR w R rest ad x ck sz of er pl pc bf pla news) : Spec w mean mg mb 143 [] 5 40 news (fun v nw => ∃ (D : Nat) (vs : List Value), v = .ref D ∧ (D, W.listOf vs.toArray 0) ∈ nw ∧ (∀ p ∈ news, p ∈ nw) ∧ vs.length = 6 ∧ ∀ i v, vs[i]? = some v → StopIs news nw v (SS4.getD i [])) := stops_spec news
theorem end_at (hL : LedR w R rest ad x ck sz of er pl pc bf pla news) (q : List Nat) (b : Bool) (p : Nat) (tp : Tok) (hp : p ≤ (norm R).length) (hT : (norm R).length ≤ 1000) {Dg Ds nn : Nat} {vs ts : List Value} (hg : (Dg, W.listOf vs.toArray nn) ∈ rest) (hS : StrsAre vs (sg (norm R))) (hQ : StrsAre ts (sg q)) :
    Spec w mean mg mb 171 [.ref Dg, .int (p : Int) tp, .ref Ds, .bool b] 5 90 ((Ds, tup ts) :: news) (fun v nw => (∃ t, v = .int ((p + (runL (fun c => decide (c ∈ q)) b ((norm R).drop p)).length : Nat) : Int) t) ∧ nw = (Ds, tup ts) :: news) :=
  end_spec (norm R) q b p tp hp hT (.tail _ (LedR.mem_rest hL hg)) hS (.head _) hQ
theorem in_tup {D : Nat} {ts : List Value} {q : List Nat} (hQ : StrsAre ts (sg q)) : InIs w (.ref D) (fun c => decide (c ∈ q)) ((D, tup ts) :: rest) := by
  intro A E Q s h₀ L c t' news N hm hc hu h
  exact in_sg (tup_of N (hm _ (.head _))) hQ hu (h s.toks (Nat.le_refl _))
end
section
variable {w : World} {mean : ExcName → Option Value} {mg mb : Str → Option Value} {R : List Nat} {rest : List (Addr × Obj)} {ad : List Nat} {x : Nat} {st : St} {news : List (Addr × Obj)} {Dg Dp ng np : Nat} {gs ws : List Value}
set_option maxRecDepth 100000 in
set_option maxHeartbeats 4000000 in
theorem b2c (hL : LedIs w R rest ad x st news) (hg : (Dg, W.listOf gs.toArray ng) ∈ rest) (hS : StrsAre gs (sg (norm R))) (hp : (Dp, W.listOf ws.toArray np) ∈ rest) (hP : PlOk (norm R) (norm R).length ws rest) (hr : Raw R) (hR : R.length ≤ 32) {p : Nat} (hi : InvG True R st p)
    (bd : Stmt) (tl : List Stmt) (sc : Scope) (hb : forB.drop 2 = bd :: tl) (hs : lawSc = sc) (k : Int) {t0 t1 t6 t7 t8 t9 tx : Tok} {u2 u3 u4 : Option Value} {vt vs : Value} {fh : Bool} (hf : fh = true → 0 < p ∧ 0 < st.off)
    (dp un : Nat) (gd : Option (List Code)) (a : Addr) (ccd : Value) (cl : List (Str × Addr)) (outer : List Env) (A₀ : Around) (base h₀ : Heap) (L : Addr) (s : Shared) (Q : Flow → Shared → Prop) (E : Value → Shared → Prop)
    (B : Below A₀ base outer h₀) (F : Fr h₀ L s.heap (fun y => if y = Str.ofString "n" then some (.int k t0) else if y = Str.ofString "way" then some (.int (k.fdiv 48) t1) else if y = Str.ofString "due" then u2 else if y = Str.ofString "inside" then u3 else if y = Str.ofString "end" then u4 else if y = Str.ofString "fresh" then some (.bool fh) else if y = Str.ofString "place" then some (.int (p : Int) t6) else if y = Str.ofString "until" then some (.int ((norm (R.take st.cut)).length : Int) t7) else if y = Str.ofString "start" then some (.int (st.cut : Int) t8) else if y = Str.ofString "taken" then some (.int (st.place : Int) t9) else base4 x Dp Dg R tx vt vs y))
    (X : (hd04.heap_39 w.params).In h₀) (N : News h₀ L s.heap news) (T : Top hd04.view_39 loose mean mg mb h₀) (hd : dp + 100 < recursionLimit) (hu : un + 800 < cLine) (hE : PassesOwn (model PySem.Challenge.pw_te0074_04 w) (ktrTop dp un gd (Str.ofString "law") sc L a ccd cl outer) (envOf (Str.ofString "law") sc L a ccd) E)
    (hw : (k.fdiv 12).fmod 4 ≠ 0) (hw3 : (k.fdiv 12).fmod 4 ≠ 3) (hret : ∀ h' tk' m' (st' : St) (p' : Nat) (fh' : Bool) nw', FrC x Dp Dg R tx vt vs k (some (.int (k.fdiv 48) t1)) st' p' fh' m' → InvG True R st' p' → (fh' = true → 0 < p' ∧ 0 < st'.off) → LedIs w R rest ad x st' nw' → Fr h₀ L h' m' → News h₀ L h' nw' → Q .next { s with heap := h', toks := tk' }) :
    wpAny (model PySem.Challenge.pw_te0074_04 w) (ktrTop dp un gd (Str.ofString "law") sc L a ccd cl outer) (exec bd (envOf (Str.ofString "law") sc L a ccd)) Q E s := by
  conv at hb => lhs; whnf
  conv at hs => lhs; whnf
  cases hb
  subst hs
  have hple := invG_le hi
  have hnl := norm_len R
  obtain ⟨o1, o2, o3, o4, o5⟩ := invG_ok hi hr.len
  obtain ⟨ix, hix, hix6⟩ : ∃ ix : Nat, (k.fdiv 48).fmod 6 = (ix : Int) ∧ ix < 6 := ⟨((k.fdiv 48).fmod 6).toNat, by
    have h1 := Int.fmod_nonneg_of_pos (k.fdiv 48) (show (0 : Int) < 6 by decide)
    have h2 := Int.fmod_lt_of_pos (k.fdiv 48) (show (0 : Int) < 6 by decide)
    lia⟩
  obtain ⟨q, hq⟩ : ∃ q, SS4.getD ix [] = q := ⟨_, rfl⟩
  obtain ⟨bb, hbb⟩ : ∃ bb, ((k.fdiv 12).fmod 4 == 2) = bb := ⟨_, rfl⟩
  obtain ⟨n6, l6, st6, e1, e2, e3, e4, e5, e6⟩ := invG_until hr.plain (by lia) hr.code (fun c => decide (c ∈ q)) bb (norm R).length st p hi (by lia)
  have hle6 := invG_le e4
  have hmid : ((norm R).take (p + l6.length)).drop p = l6 := by rw [e3]; exact run_mid
  have hn6 : n6 ≤ 50 := Nat.le_trans e1 (Nat.le_trans hnl (Nat.le_trans hR (by decide)))
  have hT9 : (norm R).length ≤ 1000 := Nat.le_trans hnl o1
  have hRl : 0 < R.length := List.length_pos_iff.mpr hr.ne
  have hcut : st.cut ≤ R.length := by have := invG_ple hi; unfold St.cut; lia
  have hmin : ∀ t : Nat, R.length = Min.min (t + R.length) R.length := fun t => by lia
  have hl100 : l6.length ≤ 100 := by lia
  clear e1 e5
  unfold LedIs at hL
  k_with_none
  k_with "tb" => (first | assumption | (apply le3; assumption; exact rfl) | lia | (simp only [List.length_append, List.length_cons, List.length_nil, List.length_take, List.length_drop, List.length_dropLast, crs_len, partOf_len] at *; lia) | ((with_reducible refine Nat.le_trans (crlf_len _) ?_); tb_start) | ((with_reducible refine Nat.le_trans (split_len _) ?_); tb_start) | ((with_reducible refine Nat.le_trans (norm_len _) ?_); tb_start))
  k_with "call builtin:str.count" => (refine count4 (by decide +kernel) (by first | assumption | lia) ?_)
  k_with "call builtin:str.rfind" => (refine rfind4 (by decide +kernel) (by first | assumption | lia) ?_)
  k_with "call builtin:str.replace" => ((try dsimp only at *); k_dflt (refine repl_crlf_S (by decide +kernel) (by decide +kernel) (by k_ne) (by k_ne) (by k_ne) (by tb_start) ?_); intro _ _ _)
  k_with "call builtin:str.replace" => ((try dsimp only at *); k_dflt (refine repl_cr_S (by decide +kernel) (by decide +kernel) (by k_ne) (by k_ne) (by k_ne) (by tb_start) ?_); intro _ _ _)
  k_with "call builtin:len" => ((with_reducible show wpAny _ _ (call (Value.builtin "len") [Value.str (S _) _]) _ _ _); refine len_S (by tb_start) ?_)
  k_with "call builtin:ord" => ((with_reducible show wpAny _ _ (call (Value.builtin "ord") [Value.str (S _) _]) _ _ _); refine ord_S ?_)
  k_with "binaryOp Add str str" => ((with_reducible show wpAny _ _ (binaryOp Operator.Add (Value.str (S _) _) (Value.str (S _) _)) _ _ _); refine add_S (by tb_start) ?_; intro _ _)
  k_with "inplaceOp Add str str" => ((with_reducible show wpAny _ _ (inplaceOp Operator.Add (Value.str (S _) _) (Value.str (S _) _)) _ _ _); refine iadd_S (by tb_start) ?_; intro _ _)
  k_with "truthy str" => ((with_reducible show wpAny _ _ (truthy (Value.str (S _) _)) _ _ _); refine truthy_S (by tb_start) ?_)
  k_with "compareOp Eq str str" => ((with_reducible show wpAny _ _ (compareOp CmpOp.Eq (Value.str (S _) _) (Value.str (S _) _)) _ _ _); refine eq_S ?_)
  k_with "compareOp NotEq str str" => ((with_reducible show wpAny _ _ (compareOp CmpOp.NotEq (Value.str (S _) _) (Value.str (S _) _)) _ _ _); refine ne_S ?_)
  k_with "subscriptTail Name Slice str ref" => (k_here; (with_reducible rename Fr _ _ _ _ => F'); (with_reducible rename News _ _ _ _ => N'); k_dflt (refine drop_S (s := ⟨_, _, _, _, _⟩) F' N' (by tb_start) ?_); intro _ _ _ _ _; (try k_sweep))
  k_with "subscriptTail Name Slice str ref" => (k_here; (with_reducible rename Fr _ _ _ _ => F'); (with_reducible rename News _ _ _ _ => N'); k_dflt (refine take_S (s := ⟨_, _, _, _, _⟩) F' N' (by tb_start) ?_); intro _ _ _ _ _; (try k_sweep))
  k_with "subscriptTail Name Slice str ref" => (k_here; (with_reducible rename Fr _ _ _ _ => F'); (with_reducible rename News _ _ _ _ => N'); k_dflt (refine mid_S (s := ⟨_, _, _, _, _⟩) F' N' (by tb_start) ?_); intro _ _ _ _ _; (try k_sweep))
  k_with "subscriptTail Name Slice str ref" => (k_here; (with_reducible rename Fr _ _ _ _ => F'); (with_reducible rename News _ _ _ _ => N'); k_dflt (refine part_S (s := ⟨_, _, _, _, _⟩) F' N' (by tb_start) ?_); intro _ _ _ _ _; (try k_sweep))
  k_with "subscriptTail Name Slice str ref" => (k_here; (with_reducible rename Fr _ _ _ _ => F'); (with_reducible rename News _ _ _ _ => N'); k_dflt (refine init_S (s := ⟨_, _, _, _, _⟩) F' N' (by tb_start) ?_); intro _ _ _ _ _; (try k_sweep))
  k_with "subscriptTail Name UnaryOp str int" => (k_here; (with_reducible show wpAny _ _ (subscriptTail _ _ (Value.str (S _) _) (Value.int _ _)) _ _ _); k_dflt (first | (refine last_S (by first | assumption | (intro hz; simp only [hz, List.length_nil] at *; lia)) (by tb_start) ?_) | (refine item_S (by first | assumption | lia | k_extra "my item") (by tb_start) ?_)))
  k_with "subscriptTail Name Name str int" => (k_here; (with_reducible show wpAny _ _ (subscriptTail _ _ (Value.str (S _) _) (Value.int _ _)) _ _ _); first | (with_reducible refine item_S (by k_dflt (first | assumption | lia | k_extra "my item")) (by k_dflt tb_start) ?_) | k_dflt (refine item_Si (by lia) (by first | lia | k_extra "my item") (by tb_start) ?_))
  k_with "subscriptTail Name Constant str int" => (k_here; (with_reducible show wpAny _ _ (subscriptTail _ _ (Value.str (S _) _) (Value.int _ _)) _ _ _); first | (with_reducible refine item_S (by k_dflt (first | assumption | lia | k_extra "my item")) (by k_dflt tb_start) ?_) | k_dflt (refine item_Si (by lia) (by first | lia | k_extra "my item") (by tb_start) ?_))
  k_with "subscriptTail Name BinOp str int" => (k_here; (with_reducible show wpAny _ _ (subscriptTail _ _ (Value.str (S _) _) (Value.int _ _)) _ _ _); first | (with_reducible refine item_S (by k_dflt (first | assumption | lia | k_extra "my item")) (by k_dflt tb_start) ?_) | k_dflt (refine item_Si (by lia) (by first | lia | k_extra "my item") (by tb_start) ?_))
  k_with "subscriptTail Attribute Name str int" => (k_here; (with_reducible show wpAny _ _ (subscriptTail _ _ (Value.str (S _) _) (Value.int _ _)) _ _ _); first | (with_reducible refine item_S (by k_dflt (first | assumption | lia | k_extra "my item")) (by k_dflt tb_start) ?_) | k_dflt (refine item_Si (by lia) (by first | lia | k_extra "my item") (by tb_start) ?_))
  k_with "subscriptTail Attribute Constant str int" => (k_here; (with_reducible show wpAny _ _ (subscriptTail _ _ (Value.str (S _) _) (Value.int _ _)) _ _ _); first | (with_reducible refine item_S (by k_dflt (first | assumption | lia | k_extra "my item")) (by k_dflt tb_start) ?_) | k_dflt (refine item_Si (by lia) (by first | lia | k_extra "my item") (by tb_start) ?_))
  k_with "subscriptTail Attribute Attribute str int" => (k_here; (with_reducible show wpAny _ _ (subscriptTail _ _ (Value.str (S _) _) (Value.int _ _)) _ _ _); first | (with_reducible refine item_S (by k_dflt (first | assumption | lia | k_extra "my item")) (by k_dflt tb_start) ?_) | k_dflt (refine item_Si (by lia) (by first | lia | k_extra "my item") (by tb_start) ?_))
  k_with "truthy ref" => (k_here; k_dflt (refine' truthy_meth ?N ?q ?_; (case N => k_asm); (case q => k_mem); k_whole))
  k_with "exec For Name Name cons nil" => (k_here; (with_reducible rename Fr _ _ _ _ => lF'); k_dflt (refine' For_invVF lF' ?k1 ?k2 ?_; (case k1 => exact rfl); (case k2 => exact rfl); k_whole))
  k_with "exec For Name Subscript cons nil" => (k_here; (with_reducible rename Fr _ _ _ _ => lF'); k_dflt (refine' For_invVF lF' ?k1 ?k2 ?_; (case k1 => exact rfl); (case k2 => exact rfl); k_whole))
  k_with "all" => (refine List.forall_mem_append.mpr ⟨?a, ?b⟩; (case a => k_all); (case b => k_all))
  k_with "rel" => (simp only [List.size_toArray]; rw [PySem.sizeLine_eq]; lia)
  k_with "call builtin:list.append" => (k_here; (with_reducible show wpAny _ _ (call (Value.builtin _) [Value.ref _, _]) _ _ _); k_dflt (refine' append_K ?k1 ?k2 ?k3 ?_ ?z; (case k1 => k_asm); (case k2 => k_asm); (case k3 => k_upd); (case z => tb_rel); k_whole); intro h' F' N'; (try simp only [List.push_toArray] at N'); (try k_sweep))
  k_with "enter" => (refine' code_def ?k1 ?k2 ?k3 ?k4 ?k5 ?kA ?kF ?kK ?k6 ?k7 ?k8 ?k9 ?kB ?_ ?c2 ?c3 ?c4 ?c5; (case kA => exact rfl); (case kF => exact rfl); (case kK => assumption); (case k1 => k_asm); (case k2 => k_asm); (case k3 => k_asm); (case k4 => k_asm); (case k5 => k_asm); (case k6 => k_is); (case k7 => k_is); (case k8 => ktr_room); (case k9 => first | exact BindsTo.of_eq rfl | exact binds_K (by k_in) rfl (by k_is) rfl rfl rfl); (case c5 => decide); (case kB => exact locs rfl); (case c2 => exact rfl); (case c3 => exact rfl); (case c4 => exact rfl); k_whole; intro g' L' h' FG' F' N' B' X' T'; (try dsimp only); (try k_lift B'); (try k_fold))
  k_with "JoinP" => (dsimp only [JoinP])
  k_with "subscriptTail" => (k_here; (with_reducible show wpAny _ _ (subscriptTail _ _ (Value.str (S _) _) (Value.int _ _)) _ _ _); first | (with_reducible refine item_S (by k_dflt (first | assumption | lia | k_extra "my item")) (by k_dflt tb_start) ?_) | k_dflt (refine item_Si (by lia) (by first | lia | k_extra "my item") (by tb_start) ?_))
  k_with "compareOp Eq str str" => ((with_reducible show wpAny _ _ (compareOp CmpOp.Eq (Value.str (S _) _) (Value.str (Str.ofString _) _)) _ _ _); k_dflt (first | refine eq_lit [13] (by decide +kernel) ?_ | refine eq_lit [10] (by decide +kernel) ?_))
  k_with "compareOp NotEq str str" => ((with_reducible show wpAny _ _ (compareOp CmpOp.NotEq (Value.str (S _) _) (Value.str (Str.ofString _) _)) _ _ _); k_dflt (first | refine ne_lit [13] (by decide +kernel) ?_ | refine ne_lit [10] (by decide +kernel) ?_))
  k_with "inplaceOp Add str str" => ((with_reducible show wpAny _ _ (inplaceOp Operator.Add (Value.str (S _) _) (Value.str (Str.ofString _) _)) _ _ _); k_dflt (refine iadd_lit [10] (by decide +kernel) (by tb_start) ?_); intro _ _)
  k_with "room" => (k_dflt ((first | apply room4 | apply room3 | apply room2 | apply room1 | apply room0 | apply roomz); assumption; exact rfl))
  k_with "getAttr ref" => ((with_reducible show wpAny _ _ (getAttr (Value.ref _) (Str.ofString "chunk") _) _ _ _); k_dflt (refine g_chunk (by assumption) (by k_asm) (by k_asm) ?N ?_; (case N => first | k_asm | exact News.tl (by k_asm) | exact News.tl (News.tl (by k_asm)) | exact News.tl (News.tl (News.tl (by k_asm))))); intro _)
  k_with "getAttr ref" => ((with_reducible show wpAny _ _ (getAttr (Value.ref _) (Str.ofString "chunkSize") _) _ _ _); k_dflt (refine g_size (by assumption) (by k_asm) (by k_asm) ?N ?_; (case N => first | k_asm | exact News.tl (by k_asm) | exact News.tl (News.tl (by k_asm)) | exact News.tl (News.tl (News.tl (by k_asm))))); intro _)
  k_with "getAttr ref" => ((with_reducible show wpAny _ _ (getAttr (Value.ref _) (Str.ofString "chunkOffset") _) _ _ _); k_dflt (refine g_off (by assumption) (by k_asm) (by k_asm) ?N ?_; (case N => first | k_asm | exact News.tl (by k_asm) | exact News.tl (News.tl (by k_asm)) | exact News.tl (News.tl (News.tl (by k_asm))))); intro _)
  k_with "getAttr ref" => ((with_reducible show wpAny _ _ (getAttr (Value.ref _) (Str.ofString "prevNumLines") _) _ _ _); k_dflt (refine g_pl (by assumption) (by k_asm) (by k_asm) ?N ?_; (case N => first | k_asm | exact News.tl (by k_asm) | exact News.tl (News.tl (by k_asm)) | exact News.tl (News.tl (News.tl (by k_asm))))); intro _)
  k_with "getAttr ref" => ((with_reducible show wpAny _ _ (getAttr (Value.ref _) (Str.ofString "prevNumCols") _) _ _ _); k_dflt (refine g_pc (by assumption) (by k_asm) (by k_asm) ?N ?_; (case N => first | k_asm | exact News.tl (by k_asm) | exact News.tl (News.tl (by k_asm)) | exact News.tl (News.tl (News.tl (by k_asm))))); intro _)
  k_with "getAttr ref" => ((with_reducible show wpAny _ _ (getAttr (Value.ref _) (Str.ofString "errors") _) _ _ _); k_dflt (refine g_errors (by assumption) (by k_asm) (by k_asm) ?N ?_; (case N => first | k_asm | exact News.tl (by k_asm) | exact News.tl (News.tl (by k_asm)) | exact News.tl (News.tl (News.tl (by k_asm))))); intro _ hE1)
  k_with "getAttr ref" => ((with_reducible show wpAny _ _ (getAttr (Value.ref _) (Str.ofString "dataStream") _) _ _ _); k_dflt (refine g_stream (by assumption) (by k_asm) (by k_asm) ?N ?_; (case N => first | k_asm | exact News.tl (by k_asm) | exact News.tl (News.tl (by k_asm)) | exact News.tl (News.tl (News.tl (by k_asm))))); intro _ hT1)
  k_with "getAttr ref" => ((with_reducible show wpAny _ _ (getAttr (Value.ref _) (Str.ofString "_bufferedCharacter") _) _ _ _); k_dflt (refine g_buf (by assumption) (by k_asm) (by k_asm) ?N ?_; (case N => first | k_asm | exact News.tl (by k_asm) | exact News.tl (News.tl (by k_asm)) | exact News.tl (News.tl (News.tl (by k_asm))))); intro _ hB1; (try cases hB1))
  k_with "getAttr ref" => ((with_reducible show wpAny _ _ (getAttr (Value.ref _) (Str.ofString "reportCharacterErrors") _) _ _ _); k_dflt (refine g_rep (by assumption) (by k_asm) (by k_asm) ?N ?_; (case N => first | k_asm | exact News.tl (by k_asm) | exact News.tl (News.tl (by k_asm)) | exact News.tl (News.tl (News.tl (by k_asm))))); intro _ hR1)
  k_with "getAttr ref" => ((with_reducible show wpAny _ _ (getAttr (Value.ref _) (Str.ofString "_defaultChunkSize") _) _ _ _); k_dflt (refine g_dflt (by assumption) (by k_asm) (by k_asm) ?N ?_; (case N => first | k_asm | exact News.tl (by k_asm) | exact News.tl (News.tl (by k_asm)) | exact News.tl (News.tl (News.tl (by k_asm))))); intro _)
  k_with "getAttr ref" => ((with_reducible show wpAny _ _ (getAttr (Value.ref _) (Str.ofString "text") _) _ _ _); k_dflt (refine g_text (by assumption) (by assumption) (by k_asm) (by k_asm) ?N ?_; (case N => first | k_asm | exact News.tl (by k_asm) | exact News.tl (News.tl (by k_asm)) | exact News.tl (News.tl (News.tl (by k_asm))))); intro _)
  k_with "getAttr ref" => ((with_reducible show wpAny _ _ (getAttr (Value.ref _) (Str.ofString "place") _) _ _ _); k_dflt (refine g_place (by assumption) (by assumption) (by k_asm) (by k_asm) ?N ?_; (case N => first | k_asm | exact News.tl (by k_asm) | exact News.tl (News.tl (by k_asm)) | exact News.tl (News.tl (News.tl (by k_asm))))); intro _)
  k_with "setAttr ref" => ((with_reducible show wpAny _ _ (setAttr (Value.ref _) (Str.ofString "chunk") _) _ _ _); (with_reducible rename LedR _ _ _ _ _ _ _ _ _ _ _ _ _ _ => hLo); k_dflt (refine s_chunk hLo (by k_asm) (by k_asm) ?N ?_; (case N => first | k_asm | exact News.tl (by k_asm) | exact News.tl (News.tl (by k_asm)) | exact News.tl (News.tl (News.tl (by k_asm))))); intro h' n' F' N' hL'; (try k_sweep); clear hLo)
  k_with "setAttr ref" => ((with_reducible show wpAny _ _ (setAttr (Value.ref _) (Str.ofString "chunk") (Value.str (Str.ofString "") _)) _ _ _); (with_reducible rename LedR _ _ _ _ _ _ _ _ _ _ _ _ _ _ => hLo); k_dflt (refine s_chunk0 hLo (by k_asm) (by k_asm) ?N ?_; (case N => first | k_asm | exact News.tl (by k_asm) | exact News.tl (News.tl (by k_asm)) | exact News.tl (News.tl (News.tl (by k_asm))))); intro h' n' F' N' hL'; (try k_sweep); clear hLo)
  k_with "setAttr ref" => ((with_reducible show wpAny _ _ (setAttr (Value.ref _) (Str.ofString "chunkSize") _) _ _ _); (with_reducible rename LedR _ _ _ _ _ _ _ _ _ _ _ _ _ _ => hLo); k_dflt (refine s_size hLo (by k_asm) (by k_asm) ?N ?_; (case N => first | k_asm | exact News.tl (by k_asm) | exact News.tl (News.tl (by k_asm)) | exact News.tl (News.tl (News.tl (by k_asm))))); intro h' n' F' N' hL'; (try k_sweep); clear hLo)
  k_with "setAttr ref" => ((with_reducible show wpAny _ _ (setAttr (Value.ref _) (Str.ofString "chunkOffset") _) _ _ _); (with_reducible rename LedR _ _ _ _ _ _ _ _ _ _ _ _ _ _ => hLo); k_dflt (refine s_off hLo (by k_asm) (by k_asm) ?N ?_; (case N => first | k_asm | exact News.tl (by k_asm) | exact News.tl (News.tl (by k_asm)) | exact News.tl (News.tl (News.tl (by k_asm))))); intro h' n' F' N' hL'; (try k_sweep); clear hLo)
  k_with "setAttr ref" => ((with_reducible show wpAny _ _ (setAttr (Value.ref _) (Str.ofString "prevNumLines") _) _ _ _); (with_reducible rename LedR _ _ _ _ _ _ _ _ _ _ _ _ _ _ => hLo); k_dflt (refine s_pl hLo (by k_asm) (by k_asm) ?N ?_; (case N => first | k_asm | exact News.tl (by k_asm) | exact News.tl (News.tl (by k_asm)) | exact News.tl (News.tl (News.tl (by k_asm))))); intro h' n' F' N' hL'; (try k_sweep); clear hLo)
  k_with "setAttr ref" => ((with_reducible show wpAny _ _ (setAttr (Value.ref _) (Str.ofString "prevNumCols") _) _ _ _); (with_reducible rename LedR _ _ _ _ _ _ _ _ _ _ _ _ _ _ => hLo); k_dflt (refine s_pc hLo (by k_asm) (by k_asm) ?N ?_; (case N => first | k_asm | exact News.tl (by k_asm) | exact News.tl (News.tl (by k_asm)) | exact News.tl (News.tl (News.tl (by k_asm))))); intro h' n' F' N' hL'; (try k_sweep); clear hLo)
  k_with "setAttr ref" => ((with_reducible show wpAny _ _ (setAttr (Value.ref _) (Str.ofString "_bufferedCharacter") _) _ _ _); (with_reducible rename LedR _ _ _ _ _ _ _ _ _ _ _ _ _ _ => hLo); k_dflt (refine s_buf (by first | exact BufIs.none | exact BufIs.some | assumption) hLo (by k_asm) (by k_asm) ?N ?_; (case N => first | k_asm | exact News.tl (by k_asm) | exact News.tl (News.tl (by k_asm)) | exact News.tl (News.tl (News.tl (by k_asm))))); intro h' n' F' N' hL'; (try k_sweep); clear hLo)
  k_with "setAttr ref" => ((with_reducible show wpAny _ _ (setAttr (Value.ref _) (Str.ofString "place") _) _ _ _); (with_reducible rename LedR _ _ _ _ _ _ _ _ _ _ _ _ _ _ => hLo); k_dflt (refine s_place hLo (by assumption) (by k_asm) (by k_asm) ?N ?_; (case N => first | k_asm | exact News.tl (by k_asm) | exact News.tl (News.tl (by k_asm)) | exact News.tl (News.tl (News.tl (by k_asm))))); intro h' n' F' N' hL'; (try k_sweep); clear hLo)
  k_with "getMethod ref" => ((with_reducible show wpAny _ _ (getMethod (Value.ref _) (Str.ofString "_position") _) _ _ _); k_dflt (refine m_pos_ (by assumption) (by k_asm) (by k_asm) ?N ?_; (case N => first | k_asm | exact News.tl (by k_asm) | exact News.tl (News.tl (by k_asm)) | exact News.tl (News.tl (News.tl (by k_asm))))))
  k_with "getMethod ref" => ((with_reducible show wpAny _ _ (getMethod (Value.ref _) (Str.ofString "position") _) _ _ _); k_dflt (refine m_pos (by assumption) (by k_asm) (by k_asm) ?N ?_; (case N => first | k_asm | exact News.tl (by k_asm) | exact News.tl (News.tl (by k_asm)) | exact News.tl (News.tl (News.tl (by k_asm))))))
  k_with "getMethod ref" => ((with_reducible show wpAny _ _ (getMethod (Value.ref _) (Str.ofString "char") _) _ _ _); k_dflt (refine m_char (by assumption) (by k_asm) (by k_asm) ?N ?_; (case N => first | k_asm | exact News.tl (by k_asm) | exact News.tl (News.tl (by k_asm)) | exact News.tl (News.tl (News.tl (by k_asm))))))
  k_with "getMethod ref" => ((with_reducible show wpAny _ _ (getMethod (Value.ref _) (Str.ofString "readChunk") _) _ _ _); k_dflt (refine m_chunk (by assumption) (by k_asm) (by k_asm) ?N ?_; (case N => first | k_asm | exact News.tl (by k_asm) | exact News.tl (News.tl (by k_asm)) | exact News.tl (News.tl (News.tl (by k_asm))))))
  k_with "getMethod ref" => ((with_reducible show wpAny _ _ (getMethod (Value.ref _) (Str.ofString "unget") _) _ _ _); k_dflt (refine m_unget (by assumption) (by k_asm) (by k_asm) ?N ?_; (case N => first | k_asm | exact News.tl (by k_asm) | exact News.tl (News.tl (by k_asm)) | exact News.tl (News.tl (News.tl (by k_asm))))))
  k_with "getMethod ref" => ((with_reducible show wpAny _ _ (getMethod (Value.ref _) (Str.ofString "charsUntil") _) _ _ _); k_dflt (refine m_until (by assumption) (by k_asm) (by k_asm) ?N ?_; (case N => first | k_asm | exact News.tl (by k_asm) | exact News.tl (News.tl (by k_asm)) | exact News.tl (News.tl (News.tl (by k_asm))))))
  k_with "getMethod ref" => ((with_reducible show wpAny _ _ (getMethod (Value.ref _) (Str.ofString "read") _) _ _ _); k_dflt (refine m_read (by assumption) (by assumption) (by k_asm) (by k_asm) ?N ?_; (case N => first | k_asm | exact News.tl (by k_asm) | exact News.tl (News.tl (by k_asm)) | exact News.tl (News.tl (News.tl (by k_asm))))))
  k_with "getMethod ref" => ((with_reducible show wpAny _ _ (getMethod (Value.ref _) (Str.ofString "reportCharacterErrors") _) _ _ _); k_dflt (refine m_rep (by assumption) (by k_asm) (by k_asm) ?N ?_; (case N => first | k_asm | exact News.tl (by k_asm) | exact News.tl (News.tl (by k_asm)) | exact News.tl (News.tl (News.tl (by k_asm))))); intro _ hR1)
  k_with "getMethod ref" => ((with_reducible show wpAny _ _ (getMethod (Value.ref _) (Str.ofString "append") _) _ _ _); k_dflt (refine m_append (by assumption) (by assumption) (by k_asm) (by k_asm) ?N ?_; (case N => first | k_asm | exact News.tl (by k_asm) | exact News.tl (News.tl (by k_asm)) | exact News.tl (News.tl (News.tl (by k_asm))))))
  k_with "call builtin:list.append" => ((with_reducible rename LedR _ _ _ _ _ _ _ _ _ _ _ _ _ _ => hLo); k_dflt (refine app_err hLo (by assumption) (by k_asm) (by k_asm) ?N (by lia) ?_; (case N => first | k_asm | exact News.tl (by k_asm) | exact News.tl (News.tl (by k_asm)) | exact News.tl (News.tl (News.tl (by k_asm))))); intro h' n' F' N' hL'; (try k_sweep); clear hLo)
  k_with "call ref" => ((with_reducible show wpAny _ _ (call (Value.ref 143) _) _ _ _); (with_reducible rename LedR _ _ _ _ _ _ _ _ _ _ _ _ _ _ => hLo); k_dflt ((refine' Spec.useStops (stops_at hLo) ?B ?F ?X ?N ?T ?hk ?hd ?hu ?_); (case B => k_asm); (case F => k_asm); (case X => k_asm); (case T => k_asm); (case hk => first | exact rfl | assumption); (case N => first | k_asm | exact News.tl (by k_asm) | exact News.tl (News.tl (by k_asm)) | exact News.tl (News.tl (News.tl (by k_asm)))); (case hd => ktr_room); (case hu => ktr_units); intro D7 vs7 n' h' tk' hm7 hsub7 hl7 hat7 hle' F' N'; (try dsimp only); (try k_fold)))
  k_with "subscriptTail" => ((with_reducible show wpAny _ _ (subscriptTail _ _ (Value.ref D7) (Value.int _ _)) _ _ _); (obtain ⟨v7, hv7⟩ : ∃ v, vs7[ix]? = some v := ⟨_, List.getElem?_eq_getElem (by lia)⟩); (obtain ⟨T7, ts7, hT7, hm8, hlt7, hQ7⟩ := hat7 ix v7 hv7); subst hT7; (rw [hq] at hQ7); (with_reducible rename News _ _ _ _ => N9); (rw [hix]); k_dflt (refine item_listL (News.isList N9 hm7) (by lia) (by lia) (by rw [Int.toNat_natCast]; exact hv7) ?_); (have N8 := News.sub N9 (sub_cons hm8 hsub7)); (clear N9 hm7 hsub7 hl7 hat7 hv7 hm8))
  k_with "call ref" => ((with_reducible show wpAny _ _ (call (Value.ref 171) _) _ _ _); (with_reducible rename LedR _ _ _ _ _ _ _ _ _ _ _ _ _ _ => hLo); k_dflt ((rw [hbb]); (refine' Spec.useI (end_at hLo q bb p _ hple hT9 hg hS hQ7) ?B ?F ?X ?N ?T ?hk ?hd ?hu ?_); (case B => k_asm); (case F => k_asm); (case X => k_asm); (case T => k_asm); (case hk => first | exact rfl | assumption); (case N => first | k_asm | exact News.tl (by k_asm) | exact News.tl (News.tl (by k_asm)) | exact News.tl (News.tl (News.tl (by k_asm)))); (case hd => ktr_room); (case hu => ktr_units); (rw [← e3]); intro te h' tk' hle' F' N'; (try dsimp only); (try k_fold)))
  k_with "call ref" => ((with_reducible show wpAny _ _ (call (Value.ref 121) _) _ _ _); (with_reducible rename LedR _ _ _ _ _ _ _ _ _ _ _ _ _ _ => hLo); k_dflt ((rw [hbb]); (refine' Spec.useS (until_new (st := st) hLo hlt7 (in_tup hQ7) _ (.inl rfl) e2 hn6) ?B ?F ?X ?N ?T ?hk ?hd ?hu ?_); (case B => k_asm); (case F => k_asm); (case X => k_asm); (case T => k_asm); (case hk => first | exact rfl | assumption); (case N => first | k_asm | exact News.tl (by k_asm) | exact News.tl (News.tl (by k_asm)) | exact News.tl (News.tl (News.tl (by k_asm)))); (case hd => ktr_room); (case hu => ktr_units); intro tl n' h' tk' hL' hle' F' N'; (clear hLo); (unfold LedIs at hL'); (try dsimp only); (try k_fold)))
  k_with "subscriptTail Name Slice ref ref" => ((with_reducible rename Fr _ _ _ _ => F9); (with_reducible rename News _ _ _ _ => N9); (with_reducible rename LedR _ _ _ _ _ _ _ _ _ _ _ _ _ _ => hLo); k_dflt (refine' mid_L (a := p) (b := p + l6.length) (s := ⟨_, _, _, _, _⟩) F9 N9 (News.isList N9 (LedR.mem_rest hLo hg)) hS ?ma ?mb ?mc ?_; (case ma => exact Nat.le_add_right _ _); (case mb => exact hle6); (case mc => exact Nat.le_trans hT9 (by decide))); (clear F9 N9); (intro Dm wm hm' Fm Nm l1m hSm); (rw [hmid] at hSm))
  k_with "call builtin:str.join" => (k_dflt (refine join_sg of_empty (News.isList (by k_asm) (.head _)) hSm hl100 ?_); intro t' k')
  k_with "compareOp NotEq str str" => ((with_reducible show wpAny _ _ (compareOp CmpOp.NotEq (Value.str (S _) _) (Value.str (S _) _)) _ _ _); k_dflt (refine ne_no rfl ?_))
  k_with "exec While" => ((with_reducible rename Fr _ _ _ _ => F9); (with_reducible rename News _ _ _ _ => N9); (with_reducible rename LedR _ _ _ _ _ _ _ _ _ _ _ _ _ _ => hLo); k_dflt ((refine' while_m (GJ w R (p + l6.length) rest ad x st6) (R.length - st.cut) F9 ?wN ?wj ?wt); (case' wj => exact GJ.of st.cut st.place rfl hcut e6 (set3 ⟨_, rfl⟩ ⟨_, rfl⟩ ⟨_, rfl⟩ (fun z _ _ _ => rfl)) hLo); (case' wN => first | exact N9 | exact News.tl N9 | exact News.tl (News.tl N9)); (case' wt => clear F9 N9 hLo; intro n m₁ nx h₁ tk₁ hJ F' N'; (obtain ⟨c, t, ta, tb, tc, hn, hcl, hgo, hm', hL'⟩ := hJ); subst hm'; (unfold LedIs at hL'); (rcases goes4 hgo with ⟨hst | hst, hc', ht'⟩ | ⟨hs1, hs2, hgo2⟩) <;> ((try dsimp only); (try k_fold)))))
  k_with "call ref" => ((with_reducible show wpAny _ _ (call (Value.ref 157) _) _ _ _); k_dflt ((refine' Spec.useFet (fetched_spec R c t R.length R.length _ _ _ _ (Nat.le_trans o1 (by decide)) (hmin t) hRl _) ?B ?F ?X ?N ?T ?hk ?hd ?hu ?_); (case B => k_asm); (case F => k_asm); (case X => k_asm); (case T => k_asm); (case hk => first | exact rfl | assumption); (case N => first | k_asm | exact News.tl (by k_asm) | exact News.tl (News.tl (by k_asm)) | exact News.tl (News.tl (News.tl (by k_asm)))); (case hd => ktr_room); (case hu => ktr_units); intro D8 ta8 tb8 tc8 h' tk' hlt' hle' F' N'; (try k_lt hlt'); (try dsimp only); (try k_fold)))
  k_with "WhileStep2" => ((with_reducible show WhileStep2 _ _ _ _ _ _ Flow.next _); k_dflt (refine wstep_end (news₂ := nx) (n' := R.length - cutR R c R.length) (by assumption) (by first | assumption | exact News.tl (by assumption)) (by have := cutR_gt hs2; lia) (GJ.of (cutR R c R.length) R.length rfl (cutR_gt hs2).2 hgo2 (set3 ⟨_, rfl⟩ ⟨_, rfl⟩ ⟨_, rfl⟩ (fun z h1 h2 h3 => (by repeat (first | with_reducible rfl | refine (if_neg (by assumption)).trans ?_ | rfl)))) (by assumption))))
  k_with "ite" => ((first | (with_reducible show if ((_ : Int) == _) = true then _ else _) | (with_reducible show if ((_ : Int) != _) = true then _ else _)); k_dflt (first | refine ite_pos (by simp only [beq_iff_eq, bne_iff_ne, ne_eq]; lia) ?_ | refine ite_neg (by simp only [beq_iff_eq, bne_iff_ne, ne_eq]; lia) ?_))
  k_steps
  all_goals (
    rename Fr _ _ _ _ => F9
    exact hret _ _ _ st6 (p + l6.length) false _ ⟨⟨_, rfl⟩, rfl, rfl, ⟨_, rfl⟩, ⟨_, int_eq (by rw [hc'])⟩, ⟨_, int_eq (by rw [hc'])⟩, ⟨_, int_eq (by rw [ht'])⟩, fun z a0 a1 a2 a3 a4 a5 a6 a7 a8 a9 => (by repeat (first | with_reducible rfl | refine (if_neg (by assumption)).trans ?_ | rfl))⟩ e4 (fun h => by cases h) (by assumption) F9 (by first | assumption | exact News.tl (by assumption) | exact News.tl (News.tl (by assumption)) | exact News.tl (News.tl (News.tl (by assumption)))))
end
section
variable {w : World} {mean : ExcName → Option Value} {mg mb : Str → Option Value} {R : List Nat} {rest : List (Addr × Obj)} {ad : List Nat} {x : Nat} {st : St} {news : List (Addr × Obj)} {Dg Dp ng np : Nat} {gs ws : List Value}
set_option maxRecDepth 100000 in
set_option maxHeartbeats 4000000 in
theorem turn_spec (hL : LedIs w R rest ad x st news) (hg : (Dg, W.listOf gs.toArray ng) ∈ rest) (hS : StrsAre gs (sg (norm R))) (hp : (Dp, W.listOf ws.toArray np) ∈ rest) (hP : PlOk (norm R) (norm R).length ws rest) (hr : Raw R) (hR : R.length ≤ 32) {p : Nat} (hi : InvG True R st p)
    (bd : List Stmt) (sc : Scope) (hb : forB = bd) (hs : lawSc = sc) (k : Int) {t0 t6 t7 t8 t9 tx : Tok} {u1 u2 u3 u4 : Option Value} {vt vs : Value} {fh : Bool} (hf : fh = true → 0 < p ∧ 0 < st.off)
    (dp un : Nat) (gd : Option (List Code)) (a : Addr) (ccd : Value) (cl : List (Str × Addr)) (outer : List Env) (A₀ : Around) (base h₀ : Heap) (L : Addr) (s : Shared) (Q : Flow → Shared → Prop) (E : Value → Shared → Prop)
    (B : Below A₀ base outer h₀) (F : Fr h₀ L s.heap (fun y => if y = Str.ofString "n" then some (.int k t0) else if y = Str.ofString "way" then u1 else if y = Str.ofString "due" then u2 else if y = Str.ofString "inside" then u3 else if y = Str.ofString "end" then u4 else if y = Str.ofString "fresh" then some (.bool fh) else if y = Str.ofString "place" then some (.int (p : Int) t6) else if y = Str.ofString "until" then some (.int ((norm (R.take st.cut)).length : Int) t7) else if y = Str.ofString "start" then some (.int (st.cut : Int) t8) else if y = Str.ofString "taken" then some (.int (st.place : Int) t9) else base4 x Dp Dg R tx vt vs y))
    (X : (hd04.heap_39 w.params).In h₀) (N : News h₀ L s.heap news) (T : Top hd04.view_39 loose mean mg mb h₀) (hd : dp + 100 < recursionLimit) (hu : un + 800 < cLine) (hE : PassesOwn (model PySem.Challenge.pw_te0074_04 w) (ktrTop dp un gd (Str.ofString "law") sc L a ccd cl outer) (envOf (Str.ofString "law") sc L a ccd) E)
    (hret : ∀ h' tk' m' (st' : St) (p' : Nat) (fh' : Bool) nw', FrK x Dp Dg R tx vt vs st' p' fh' m' → InvG True R st' p' → (fh' = true → 0 < p' ∧ 0 < st'.off) → LedIs w R rest ad x st' nw' → Fr h₀ L h' m' → News h₀ L h' nw' → Q .next { s with heap := h', toks := tk' }) :
    wpAny (model PySem.Challenge.pw_te0074_04 w) (ktrTop dp un gd (Str.ofString "law") sc L a ccd cl outer) (execs bd (envOf (Str.ofString "law") sc L a ccd)) Q E s := by
  conv at hb => lhs; whnf
  subst hb
  refine wpAny_execs_cons (b0 hL hg hS hp hP hr hR hi _ _ _ rfl hs k hf dp un gd a ccd cl outer A₀ base h₀ L _ _ E B F X N T hd hu hE ?_)
  intro h1 tk1 nw1 tw m1 hFr1 hL1 F1 N1
  obtain ⟨a0, a6, a7, a8, a9, v2, v3, v4, rfl⟩ := hFr1.lit
  refine wpAny_execs_cons (b1 hL1 hg hS hp hP hr hR hi _ _ _ rfl hs k hf dp un gd a ccd cl outer A₀ base h₀ L _ _ E B F1 X N1 T hd hu hE ?_)
  intro h2 tk2 m2 st2 p2 fh2 nw2 hFr2 hi2 hf2 hL2 F2 N2
  obtain ⟨b0, b6, b7, b8, b9, w2, w3, w4, rfl⟩ := hFr2.lit
  have fin : ∀ h' tk' m' (st' : St) (p' : Nat) (fh' : Bool) nw', FrC x Dp Dg R tx vt vs k (some (.int (k.fdiv 48) tw)) st' p' fh' m' → InvG True R st' p' → (fh' = true → 0 < p' ∧ 0 < st'.off) → LedIs w R rest ad x st' nw' → Fr h₀ L h' m' → News h₀ L h' nw' → wpAny (model PySem.Challenge.pw_te0074_04 w) (ktrTop dp un gd (Str.ofString "law") sc L a ccd cl outer) (execs (forB.drop 3) (envOf (Str.ofString "law") sc L a ccd)) Q E { s with heap := h', toks := tk' } := by
    intro h3 tk3 m3 st3 p3 fh3 nw3 hFr3 hi3 hf3 hL3 F3 N3
    obtain ⟨c0, c6, c7, c8, c9, y2, y3, y4, rfl⟩ := hFr3.lit
    refine wpAny_execs_cons (b3 hL3 hg hS hp hP hr hR hi3 _ _ _ rfl hs k hf3 dp un gd a ccd cl outer A₀ base h₀ L _ _ E B F3 X N3 T hd hu hE ?_)
    intro h4 tk4 nw4 hL4 F4 N4
    exact wpAny_execs_nil (hret _ _ _ st3 p3 fh3 nw4 ⟨rfl, ⟨_, rfl⟩, ⟨_, rfl⟩, ⟨_, rfl⟩, ⟨_, rfl⟩, fun z a0 a1 a2 a3 a4 a5 a6 a7 a8 a9 => (by repeat (first | with_reducible rfl | refine (if_neg (by assumption)).trans ?_ | rfl))⟩ hi3 hf3 hL4 F4 N4)
  by_cases hw : (k.fdiv 12).fmod 4 = 0
  · exact wpAny_execs_cons (b2a hL2 hg hS hp hP hr hR hi2 _ _ _ rfl hs k hf2 dp un gd a ccd cl outer A₀ base h₀ L _ _ E B F2 X N2 T hd hu hE hw fin)
  by_cases hw3 : (k.fdiv 12).fmod 4 = 3
  · exact wpAny_execs_cons (b2b hL2 hg hS hp hP hr hR hi2 _ _ _ rfl hs k hf2 dp un gd a ccd cl outer A₀ base h₀ L _ _ E B F2 X N2 T hd hu hE hw3 fin)
  · exact wpAny_execs_cons (b2c hL2 hg hS hp hP hr hR hi2 _ _ _ rfl hs k hf2 dp un gd a ccd cl outer A₀ base h₀ L _ _ E B F2 X N2 T hd hu hE hw hw3 fin)
set_option maxRecDepth 100000 in
set_option maxHeartbeats 4000000 in
theorem for_spec (hL : LedIs w R rest ad x st news) (hg : (Dg, W.listOf gs.toArray ng) ∈ rest) (hS : StrsAre gs (sg (norm R))) (hp : (Dp, W.listOf ws.toArray np) ∈ rest) (hP : PlOk (norm R) (norm R).length ws rest) (hr : Raw R) (hR : R.length ≤ 32) {p : Nat} (hi : InvG True R st p)
    {l : Addr} {es : List Value} {ks : List Int} {nn : Nat} (hmem : (l, W.listOf es.toArray nn) ∈ rest) (hI : IntsAre es ks)
    (bd : List Stmt) (sc : Scope) (hb : forB = bd) (hs : lawSc = sc) {tx : Tok} {vt vs : Value} {fh : Bool} (hf : fh = true → 0 < p ∧ 0 < st.off) {m₀ : Str → Option Value} (hm : FrK x Dp Dg R tx vt vs st p fh m₀)
    {dp un : Nat} {gd : Option (List Code)} {a : Addr} {ccd : Value} {cl : List (Str × Addr)} {outer : List Env} {A₀ : Around} {base h₀ : Heap} {L : Addr} {s : Shared} {Q : Flow → Shared → Prop} {E : Value → Shared → Prop} {xn : Str} (hx : xn = Str.ofString "n")
    (B : Below A₀ base outer h₀) (F : Fr h₀ L s.heap m₀)
    (X : (hd04.heap_39 w.params).In h₀) (N : News h₀ L s.heap news) (T : Top hd04.view_39 loose mean mg mb h₀) (hd : dp + 100 < recursionLimit) (hu : un + 800 < cLine) (hE : PassesOwn (model PySem.Challenge.pw_te0074_04 w) (ktrTop dp un gd (Str.ofString "law") sc L a ccd cl outer) (envOf (Str.ofString "law") sc L a ccd) E)
    (done : ∀ h' tk' m' (st' : St) (p' : Nat) (fh' : Bool) nw', FrK x Dp Dg R tx vt vs st' p' fh' m' → InvG True R st' p' → LedIs w R rest ad x st' nw' → Fr h₀ L h' m' → News h₀ L h' nw' → Q .next { s with heap := h', toks := tk' }) :
    wpAny (model PySem.Challenge.pw_te0074_04 w) (ktrTop dp un gd (Str.ofString "law") sc L a ccd cl outer) (pyIter (.ref l)) (fun it s₂ => LoopAtV PySem.Challenge.pw_te0074_04 w (ktrTop dp un gd (Str.ofString "law") sc L a ccd cl outer) h₀ (envOf (Str.ofString "law") sc L a ccd) xn bd Q E it s₂) E s := by
  subst hx
  refine loop_Lm (env := envOf (Str.ofString "law") sc L a ccd) (fun _ _ m' nx => ∃ (st' : St) (p' : Nat) (fh' : Bool), FrK x Dp Dg R tx vt vs st' p' fh' m' ∧ InvG True R st' p' ∧ (fh' = true → 0 < p' ∧ 0 < st'.off) ∧ LedIs w R rest ad x st' nx) (by rfl) (LedR.mem_rest hL hmem) F N ⟨st, p, fh, hm, hi, hf, hL⟩ ?_ ?_
  · intro i v m₁ nx h tk own hv hadr hown hlm hJ F' N'
    obtain ⟨st', p', fh', hm', hi', hf', hL'⟩ := hJ
    obtain ⟨k, t, rfl, hk⟩ := IntsAre.at hI i v hv
    obtain ⟨t6, t7, t8, t9, u0, u1, u2, u3, u4, rfl⟩ := hm'.lit
    have ha := LedR.addr hL
    rw [ha] at hown
    have F2 : Fr h₀ L h (fun y => if y = Str.ofString "n" then some (.int k t) else if y = Str.ofString "way" then u1 else if y = Str.ofString "due" then u2 else if y = Str.ofString "inside" then u3 else if y = Str.ofString "end" then u4 else if y = Str.ofString "fresh" then some (.bool fh') else if y = Str.ofString "place" then some (.int (p' : Int) t6) else if y = Str.ofString "until" then some (.int ((norm (R.take st'.cut)).length : Int) t7) else if y = Str.ofString "start" then some (.int (st'.cut : Int) t8) else if y = Str.ofString "taken" then some (.int (st'.place : Int) t9) else base4 x Dp Dg R tx vt vs y) := by
      rw [← cut_if (u := u0)]
      exact F'
    refine turn_spec (LedR.app hL' (fun p hp b hb => hown p hp b (List.mem_append.mpr (.inl hb)))) (List.mem_append.mpr (.inl hg)) hS (List.mem_append.mpr (.inl hp)) (hP.mono fun q hq => List.mem_append.mpr (.inl hq)) hr hR hi' bd sc hb hs k hf' dp un gd a ccd cl outer A₀ base h₀ L _ _ E B F2 X N' T hd hu hE ?_
    intro h' tk' m' st2 p2 fh2 nw' hF2 hi2 hf2 hL2 Fe Ne
    exact led_end Fe Ne hL2 (by rw [ha]) (fun nx hnx => ⟨LedR.mem_rest hnx hmem, st2, p2, fh2, hF2, hi2, hf2, hnx⟩)
  · intro m₁ nx h tk hlm hJ F' N'
    obtain ⟨st', p', fh', hm', hi', hf', hL'⟩ := hJ
    exact done h tk m₁ st' p' fh' nx hm' hi' hL' F' N'
end
theorem eq_rep_yes {prog : Program} {w : World} {A : Around} {E : Value → Shared → Prop} {s : Shared} {D D' : Addr} {Q : Value → Shared → Prop} {v : PySem.Str} {xs ys : List Value} {n m : Nat} (ha : s.heap.IsList D xs.toArray) (hb : s.heap.IsList D' ys.toArray)
    (hi : StrsAre xs (List.replicate n v)) (hj : StrsAre ys (List.replicate m v)) (hv : PyData.strOk v = true) (hu : A.units + 64 < cLine) (e : n = m) (h : Q (.bool true) s) :
    wpAny (model prog w) A (compareOp .Eq (.ref D) (.ref D')) Q E s := by
  subst e
  refine eq_strs ha hb hi hj (rep_ok hv n) (rep_ok hv n) hu ?_
  rw [decide_eq_true rfl]
  exact h
theorem off1_all {D : Addr} : ∀ {l : List (Addr × Obj)}, LCg.Off1 D l → ∀ p ∈ l, p.1 ≠ D
  | [], _, p, hp => by cases hp
  | q :: r, h, p, hp => by
    rcases List.mem_cons.mp hp with rfl | hp
    · exact h.1
    · exact off1_all h.2 p hp
theorem LedR.pushN {w : World} {R : List Nat} {rest : List (Addr × Obj)} {ad : List Nat} {x : Nat} {ck : List Nat} {sz of : Int} {er : Nat} {pl pc : Int} {bf : Option Nat} {pla : Int} {news : List (Addr × Obj)} {h₀ g : Heap} {L : Addr} {D : Nat} {o : Obj} (h : LedR w R rest ad x ck sz of er pl pc bf pla news) (hl : ∀ p ∈ news, p.1 ≠ D) (N : News h₀ L g ((D, o) :: news)) :
    ∃ n2, LedR w R ((D, o) :: rest) ad x ck sz of er pl pc bf pla n2 ∧ News h₀ L g n2 := by
  have ha := h.addr
  have hD : ∀ b ∈ ad, D ≠ b := fun b hb => by
    have : b ∈ news.map (·.1) := by rw [ha]; exact List.mem_append.mpr (.inl hb)
    obtain ⟨p, hp, rfl⟩ := List.mem_map.mp this
    exact (hl p hp).symm
  have hO := h.off
  obtain ⟨n7, h7, rfl⟩ := LedR.part (rest := []) h
  refine ⟨n7 ++ (D, o) :: rest, LedR.app (rest := []) h7 (fun p hp b hb => ?_), fun p hp => N p (List.mem_cons.mpr (mem_mid.mp hp))⟩
  rcases List.mem_cons.mp hp with rfl | hp
  · exact hD b hb
  · exact hO p hp b hb
section
variable {w : World} {mean : ExcName → Option Value} {mg mb : Str → Option Value} {R : List Nat} {rest : List (Addr × Obj)} {ad : List Nat} {x : Nat} {st : St} {news : List (Addr × Obj)} {Dg Dp ng np : Nat} {gs ws : List Value}
set_option maxRecDepth 100000 in
set_option maxHeartbeats 4000000 in
theorem tail_spec (hL : LedIs w R rest ad x st news) (hg : (Dg, W.listOf gs.toArray ng) ∈ rest) (hS : StrsAre gs (sg (norm R))) (hp : (Dp, W.listOf ws.toArray np) ∈ rest) (hP : PlOk (norm R) (norm R).length ws rest) (hr : Raw R) (hR : R.length ≤ 32) {p : Nat} (hi : InvG True R st p)
    (bd : List Stmt) (sc : Scope) (hb : lawB.drop 11 = bd) (hs : lawSc = sc) {t6 t7 t8 t9 tx : Tok} {u0 u1 u2 u3 u4 : Option Value} {vt vs : Value} {fh : Bool}
    (dp un : Nat) (gd : Option (List Code)) (a : Addr) (ccd : Value) (cl : List (Str × Addr)) (outer : List Env) (A₀ : Around) (base h₀ : Heap) (L : Addr) (s : Shared) (Q : Flow → Shared → Prop) (E : Value → Shared → Prop)
    (B : Below A₀ base outer h₀) (F : Fr h₀ L s.heap (fun y => if y = Str.ofString "n" then u0 else if y = Str.ofString "way" then u1 else if y = Str.ofString "due" then u2 else if y = Str.ofString "inside" then u3 else if y = Str.ofString "end" then u4 else if y = Str.ofString "fresh" then some (.bool fh) else if y = Str.ofString "place" then some (.int (p : Int) t6) else if y = Str.ofString "until" then some (.int ((norm (R.take st.cut)).length : Int) t7) else if y = Str.ofString "start" then some (.int (st.cut : Int) t8) else if y = Str.ofString "taken" then some (.int (st.place : Int) t9) else base4 x Dp Dg R tx vt vs y))
    (X : (hd04.heap_39 w.params).In h₀) (N : News h₀ L s.heap news) (T : Top hd04.view_39 loose mean mg mb h₀) (hd : dp + 100 < recursionLimit) (hu : un + 800 < cLine) (hE : PassesOwn (model PySem.Challenge.pw_te0074_04 w) (ktrTop dp un gd (Str.ofString "law") sc L a ccd cl outer) (envOf (Str.ofString "law") sc L a ccd) E)
    (hret : ∀ h' tk' m' nw', Fr h₀ L h' m' → News h₀ L h' nw' → Q (.ret (.bool true)) { s with heap := h', toks := tk' }) :
    wpAny (model PySem.Challenge.pw_te0074_04 w) (ktrTop dp un gd (Str.ofString "law") sc L a ccd cl outer) (execs bd (envOf (Str.ofString "law") sc L a ccd)) Q E s := by
  conv at hb => lhs; whnf
  conv at hs => lhs; whnf
  subst hb hs
  have hnl := norm_len R
  have hple := invG_le hi
  obtain ⟨w1, w2, w3, w4, w5⟩ := invG_ok hi hr.len
  obtain ⟨n6, l6, st6, e1, e2, e3, e4, e5, e6⟩ := invG_until hr.plain (by lia) hr.code (fun c => decide (c ∈ ([] : List Nat))) false (norm R).length st p hi (by lia)
  rw [run_all0] at e3
  have hl6 : p + l6.length = (norm R).length := by rw [e3, List.length_drop]; lia
  rw [hl6] at e4
  have hend : ¬ (norm R).length < (norm R).length := Nat.lt_irrefl _
  obtain ⟨c1, c2⟩ := invG_char_end e4 hr.plain hend
  obtain ⟨o1, o2, o3, o4, o5⟩ := invG_ok e4 hr.len
  obtain ⟨st7, hst7⟩ : ∃ st7, st6.fetch R 10240 = st7 := ⟨_, rfl⟩
  rw [hst7] at c1 c2
  obtain ⟨q1, q2, q3, q4, q5⟩ := invG_ok c2 hr.len
  obtain ⟨f1, f2⟩ := invG_fetch (size := 2) c2 hr.plain (invG_end c2 hend).2 (by decide)
  obtain ⟨st8, hst8⟩ : ∃ st8, st7.fetch R 2 = st8 := ⟨_, rfl⟩
  rw [hst8] at f1
  obtain ⟨r1, r2, r3, r4, r5⟩ := invG_ok f1 hr.len
  have hsp := invG_spot f1
  have hne : st8.errs = (norm R).countP badS := ((invG_end f1 hend).1.trans (bad_count hr.bad)).trans (norm_bad R).symm
  have f3 : decide (st7.data R 2 ≠ []) = false := f2.trans (decide_eq_false hend)
  have hn6 : n6 ≤ 50 := Nat.le_trans e1 (Nat.le_trans hnl (Nat.le_trans hR (by decide)))
  have hl100 : ((norm R).drop p).length ≤ 100 := by rw [List.length_drop]; lia
  obtain ⟨wi, Tl, al, bl, tl1, tl2, hws, hTl, hal, hbl⟩ := hP.last
  rw [hws] at hp
  have hgl := sg_len hS
  have hcode : ∀ c ∈ norm R, c < 1114112 := fun c hc => by
    rcases norm_in hc with h | h
    · lia
    · exact hr.code c h
  clear e1 e4 e5 e6 c2 hi f1 f2 hend
  have es1 : Str.ofString "\x01" = S [1] := by decide +kernel
  have es2 : Str.ofString "\ufdd0" = S [64976] := by decide +kernel
  unfold LedIs at hL
  k_with_none
  k_with "tb" => (first | assumption | (apply le3; assumption; exact rfl) | lia | (simp only [List.length_append, List.length_cons, List.length_nil, List.length_take, List.length_drop, List.length_dropLast, crs_len, partOf_len] at *; lia) | ((with_reducible refine Nat.le_trans (crlf_len _) ?_); tb_start) | ((with_reducible refine Nat.le_trans (split_len _) ?_); tb_start) | ((with_reducible refine Nat.le_trans (norm_len _) ?_); tb_start))
  k_with "call builtin:str.count" => (refine count4 (by decide +kernel) (by first | assumption | lia) ?_)
  k_with "call builtin:str.rfind" => (refine rfind4 (by decide +kernel) (by first | assumption | lia) ?_)
  k_with "call builtin:str.replace" => ((try dsimp only at *); k_dflt (refine repl_crlf_S (by decide +kernel) (by decide +kernel) (by k_ne) (by k_ne) (by k_ne) (by tb_start) ?_); intro _ _ _)
  k_with "call builtin:str.replace" => ((try dsimp only at *); k_dflt (refine repl_cr_S (by decide +kernel) (by decide +kernel) (by k_ne) (by k_ne) (by k_ne) (by tb_start) ?_); intro _ _ _)
  k_with "call builtin:len" => ((with_reducible show wpAny _ _ (call (Value.builtin "len") [Value.str (S _) _]) _ _ _); refine len_S (by tb_start) ?_)
  k_with "call builtin:ord" => ((with_reducible show wpAny _ _ (call (Value.builtin "ord") [Value.str (S _) _]) _ _ _); refine ord_S ?_)
  k_with "binaryOp Add str str" => ((with_reducible show wpAny _ _ (binaryOp Operator.Add (Value.str (S _) _) (Value.str (S _) _)) _ _ _); refine add_S (by tb_start) ?_; intro _ _)
  k_with "inplaceOp Add str str" => ((with_reducible show wpAny _ _ (inplaceOp Operator.Add (Value.str (S _) _) (Value.str (S _) _)) _ _ _); refine iadd_S (by tb_start) ?_; intro _ _)
  k_with "truthy str" => ((with_reducible show wpAny _ _ (truthy (Value.str (S _) _)) _ _ _); refine truthy_S (by tb_start) ?_)
  k_with "compareOp Eq str str" => ((with_reducible show wpAny _ _ (compareOp CmpOp.Eq (Value.str (S _) _) (Value.str (S _) _)) _ _ _); refine eq_S ?_)
  k_with "compareOp NotEq str str" => ((with_reducible show wpAny _ _ (compareOp CmpOp.NotEq (Value.str (S _) _) (Value.str (S _) _)) _ _ _); refine ne_S ?_)
  k_with "subscriptTail Name Slice str ref" => (k_here; (with_reducible rename Fr _ _ _ _ => F'); (with_reducible rename News _ _ _ _ => N'); k_dflt (refine drop_S (s := ⟨_, _, _, _, _⟩) F' N' (by tb_start) ?_); intro _ _ _ _ _; (try k_sweep))
  k_with "subscriptTail Name Slice str ref" => (k_here; (with_reducible rename Fr _ _ _ _ => F'); (with_reducible rename News _ _ _ _ => N'); k_dflt (refine take_S (s := ⟨_, _, _, _, _⟩) F' N' (by tb_start) ?_); intro _ _ _ _ _; (try k_sweep))
  k_with "subscriptTail Name Slice str ref" => (k_here; (with_reducible rename Fr _ _ _ _ => F'); (with_reducible rename News _ _ _ _ => N'); k_dflt (refine mid_S (s := ⟨_, _, _, _, _⟩) F' N' (by tb_start) ?_); intro _ _ _ _ _; (try k_sweep))
  k_with "subscriptTail Name Slice str ref" => (k_here; (with_reducible rename Fr _ _ _ _ => F'); (with_reducible rename News _ _ _ _ => N'); k_dflt (refine part_S (s := ⟨_, _, _, _, _⟩) F' N' (by tb_start) ?_); intro _ _ _ _ _; (try k_sweep))
  k_with "subscriptTail Name Slice str ref" => (k_here; (with_reducible rename Fr _ _ _ _ => F'); (with_reducible rename News _ _ _ _ => N'); k_dflt (refine init_S (s := ⟨_, _, _, _, _⟩) F' N' (by tb_start) ?_); intro _ _ _ _ _; (try k_sweep))
  k_with "subscriptTail Name UnaryOp str int" => (k_here; (with_reducible show wpAny _ _ (subscriptTail _ _ (Value.str (S _) _) (Value.int _ _)) _ _ _); k_dflt (first | (refine last_S (by first | assumption | (intro hz; simp only [hz, List.length_nil] at *; lia)) (by tb_start) ?_) | (refine item_S (by first | assumption | lia | k_extra "my item") (by tb_start) ?_)))
  k_with "subscriptTail Name Name str int" => (k_here; (with_reducible show wpAny _ _ (subscriptTail _ _ (Value.str (S _) _) (Value.int _ _)) _ _ _); first | (with_reducible refine item_S (by k_dflt (first | assumption | lia | k_extra "my item")) (by k_dflt tb_start) ?_) | k_dflt (refine item_Si (by lia) (by first | lia | k_extra "my item") (by tb_start) ?_))
  k_with "subscriptTail Name Constant str int" => (k_here; (with_reducible show wpAny _ _ (subscriptTail _ _ (Value.str (S _) _) (Value.int _ _)) _ _ _); first | (with_reducible refine item_S (by k_dflt (first | assumption | lia | k_extra "my item")) (by k_dflt tb_start) ?_) | k_dflt (refine item_Si (by lia) (by first | lia | k_extra "my item") (by tb_start) ?_))
  k_with "subscriptTail Name BinOp str int" => (k_here; (with_reducible show wpAny _ _ (subscriptTail _ _ (Value.str (S _) _) (Value.int _ _)) _ _ _); first | (with_reducible refine item_S (by k_dflt (first | assumption | lia | k_extra "my item")) (by k_dflt tb_start) ?_) | k_dflt (refine item_Si (by lia) (by first | lia | k_extra "my item") (by tb_start) ?_))
  k_with "subscriptTail Attribute Name str int" => (k_here; (with_reducible show wpAny _ _ (subscriptTail _ _ (Value.str (S _) _) (Value.int _ _)) _ _ _); first | (with_reducible refine item_S (by k_dflt (first | assumption | lia | k_extra "my item")) (by k_dflt tb_start) ?_) | k_dflt (refine item_Si (by lia) (by first | lia | k_extra "my item") (by tb_start) ?_))
  k_with "subscriptTail Attribute Constant str int" => (k_here; (with_reducible show wpAny _ _ (subscriptTail _ _ (Value.str (S _) _) (Value.int _ _)) _ _ _); first | (with_reducible refine item_S (by k_dflt (first | assumption | lia | k_extra "my item")) (by k_dflt tb_start) ?_) | k_dflt (refine item_Si (by lia) (by first | lia | k_extra "my item") (by tb_start) ?_))
  k_with "subscriptTail Attribute Attribute str int" => (k_here; (with_reducible show wpAny _ _ (subscriptTail _ _ (Value.str (S _) _) (Value.int _ _)) _ _ _); first | (with_reducible refine item_S (by k_dflt (first | assumption | lia | k_extra "my item")) (by k_dflt tb_start) ?_) | k_dflt (refine item_Si (by lia) (by first | lia | k_extra "my item") (by tb_start) ?_))
  k_with "truthy ref" => (k_here; k_dflt (refine' truthy_meth ?N ?q ?_; (case N => k_asm); (case q => k_mem); k_whole))
  k_with "exec For Name Name cons nil" => (k_here; (with_reducible rename Fr _ _ _ _ => lF'); k_dflt (refine' For_invVF lF' ?k1 ?k2 ?_; (case k1 => exact rfl); (case k2 => exact rfl); k_whole))
  k_with "exec For Name Subscript cons nil" => (k_here; (with_reducible rename Fr _ _ _ _ => lF'); k_dflt (refine' For_invVF lF' ?k1 ?k2 ?_; (case k1 => exact rfl); (case k2 => exact rfl); k_whole))
  k_with "all" => (refine List.forall_mem_append.mpr ⟨?a, ?b⟩; (case a => k_all); (case b => k_all))
  k_with "rel" => (simp only [List.size_toArray]; rw [PySem.sizeLine_eq]; lia)
  k_with "call builtin:list.append" => (k_here; (with_reducible show wpAny _ _ (call (Value.builtin _) [Value.ref _, _]) _ _ _); k_dflt (refine' append_K ?k1 ?k2 ?k3 ?_ ?z; (case k1 => k_asm); (case k2 => k_asm); (case k3 => k_upd); (case z => tb_rel); k_whole); intro h' F' N'; (try simp only [List.push_toArray] at N'); (try k_sweep))
  k_with "enter" => (refine' code_def ?k1 ?k2 ?k3 ?k4 ?k5 ?kA ?kF ?kK ?k6 ?k7 ?k8 ?k9 ?kB ?_ ?c2 ?c3 ?c4 ?c5; (case kA => exact rfl); (case kF => exact rfl); (case kK => assumption); (case k1 => k_asm); (case k2 => k_asm); (case k3 => k_asm); (case k4 => k_asm); (case k5 => k_asm); (case k6 => k_is); (case k7 => k_is); (case k8 => ktr_room); (case k9 => first | exact BindsTo.of_eq rfl | exact binds_K (by k_in) rfl (by k_is) rfl rfl rfl); (case c5 => decide); (case kB => exact locs rfl); (case c2 => exact rfl); (case c3 => exact rfl); (case c4 => exact rfl); k_whole; intro g' L' h' FG' F' N' B' X' T'; (try dsimp only); (try k_lift B'); (try k_fold))
  k_with "JoinP" => (dsimp only [JoinP])
  k_with "subscriptTail" => (k_here; (with_reducible show wpAny _ _ (subscriptTail _ _ (Value.str (S _) _) (Value.int _ _)) _ _ _); first | (with_reducible refine item_S (by k_dflt (first | assumption | lia | k_extra "my item")) (by k_dflt tb_start) ?_) | k_dflt (refine item_Si (by lia) (by first | lia | k_extra "my item") (by tb_start) ?_))
  k_with "compareOp Eq str str" => ((with_reducible show wpAny _ _ (compareOp CmpOp.Eq (Value.str (S _) _) (Value.str (Str.ofString _) _)) _ _ _); k_dflt (first | refine eq_lit [13] (by decide +kernel) ?_ | refine eq_lit [10] (by decide +kernel) ?_))
  k_with "compareOp NotEq str str" => ((with_reducible show wpAny _ _ (compareOp CmpOp.NotEq (Value.str (S _) _) (Value.str (Str.ofString _) _)) _ _ _); k_dflt (first | refine ne_lit [13] (by decide +kernel) ?_ | refine ne_lit [10] (by decide +kernel) ?_))
  k_with "inplaceOp Add str str" => ((with_reducible show wpAny _ _ (inplaceOp Operator.Add (Value.str (S _) _) (Value.str (Str.ofString _) _)) _ _ _); k_dflt (refine iadd_lit [10] (by decide +kernel) (by tb_start) ?_); intro _ _)
  k_with "room" => (k_dflt ((first | apply room4 | apply room3 | apply room2 | apply room1 | apply room0 | apply roomz); assumption; exact rfl))
  k_with "getAttr ref" => ((with_reducible show wpAny _ _ (getAttr (Value.ref _) (Str.ofString "chunk") _) _ _ _); k_dflt (refine g_chunk (by assumption) (by k_asm) (by k_asm) ?N ?_; (case N => first | k_asm | exact News.tl (by k_asm) | exact News.tl (News.tl (by k_asm)) | exact News.tl (News.tl (News.tl (by k_asm))))); intro _)
  k_with "getAttr ref" => ((with_reducible show wpAny _ _ (getAttr (Value.ref _) (Str.ofString "chunkSize") _) _ _ _); k_dflt (refine g_size (by assumption) (by k_asm) (by k_asm) ?N ?_; (case N => first | k_asm | exact News.tl (by k_asm) | exact News.tl (News.tl (by k_asm)) | exact News.tl (News.tl (News.tl (by k_asm))))); intro _)
  k_with "getAttr ref" => ((with_reducible show wpAny _ _ (getAttr (Value.ref _) (Str.ofString "chunkOffset") _) _ _ _); k_dflt (refine g_off (by assumption) (by k_asm) (by k_asm) ?N ?_; (case N => first | k_asm | exact News.tl (by k_asm) | exact News.tl (News.tl (by k_asm)) | exact News.tl (News.tl (News.tl (by k_asm))))); intro _)
  k_with "getAttr ref" => ((with_reducible show wpAny _ _ (getAttr (Value.ref _) (Str.ofString "prevNumLines") _) _ _ _); k_dflt (refine g_pl (by assumption) (by k_asm) (by k_asm) ?N ?_; (case N => first | k_asm | exact News.tl (by k_asm) | exact News.tl (News.tl (by k_asm)) | exact News.tl (News.tl (News.tl (by k_asm))))); intro _)
  k_with "getAttr ref" => ((with_reducible show wpAny _ _ (getAttr (Value.ref _) (Str.ofString "prevNumCols") _) _ _ _); k_dflt (refine g_pc (by assumption) (by k_asm) (by k_asm) ?N ?_; (case N => first | k_asm | exact News.tl (by k_asm) | exact News.tl (News.tl (by k_asm)) | exact News.tl (News.tl (News.tl (by k_asm))))); intro _)
  k_with "getAttr ref" => ((with_reducible show wpAny _ _ (getAttr (Value.ref _) (Str.ofString "errors") _) _ _ _); k_dflt (refine g_errors (by assumption) (by k_asm) (by k_asm) ?N ?_; (case N => first | k_asm | exact News.tl (by k_asm) | exact News.tl (News.tl (by k_asm)) | exact News.tl (News.tl (News.tl (by k_asm))))); intro _ hE1)
  k_with "getAttr ref" => ((with_reducible show wpAny _ _ (getAttr (Value.ref _) (Str.ofString "dataStream") _) _ _ _); k_dflt (refine g_stream (by assumption) (by k_asm) (by k_asm) ?N ?_; (case N => first | k_asm | exact News.tl (by k_asm) | exact News.tl (News.tl (by k_asm)) | exact News.tl (News.tl (News.tl (by k_asm))))); intro _ hT1)
  k_with "getAttr ref" => ((with_reducible show wpAny _ _ (getAttr (Value.ref _) (Str.ofString "_bufferedCharacter") _) _ _ _); k_dflt (refine g_buf (by assumption) (by k_asm) (by k_asm) ?N ?_; (case N => first | k_asm | exact News.tl (by k_asm) | exact News.tl (News.tl (by k_asm)) | exact News.tl (News.tl (News.tl (by k_asm))))); intro _ hB1; (try cases hB1))
  k_with "getAttr ref" => ((with_reducible show wpAny _ _ (getAttr (Value.ref _) (Str.ofString "reportCharacterErrors") _) _ _ _); k_dflt (refine g_rep (by assumption) (by k_asm) (by k_asm) ?N ?_; (case N => first | k_asm | exact News.tl (by k_asm) | exact News.tl (News.tl (by k_asm)) | exact News.tl (News.tl (News.tl (by k_asm))))); intro _ hR1)
  k_with "getAttr ref" => ((with_reducible show wpAny _ _ (getAttr (Value.ref _) (Str.ofString "_defaultChunkSize") _) _ _ _); k_dflt (refine g_dflt (by assumption) (by k_asm) (by k_asm) ?N ?_; (case N => first | k_asm | exact News.tl (by k_asm) | exact News.tl (News.tl (by k_asm)) | exact News.tl (News.tl (News.tl (by k_asm))))); intro _)
  k_with "getAttr ref" => ((with_reducible show wpAny _ _ (getAttr (Value.ref _) (Str.ofString "text") _) _ _ _); k_dflt (refine g_text (by assumption) (by assumption) (by k_asm) (by k_asm) ?N ?_; (case N => first | k_asm | exact News.tl (by k_asm) | exact News.tl (News.tl (by k_asm)) | exact News.tl (News.tl (News.tl (by k_asm))))); intro _)
  k_with "getAttr ref" => ((with_reducible show wpAny _ _ (getAttr (Value.ref _) (Str.ofString "place") _) _ _ _); k_dflt (refine g_place (by assumption) (by assumption) (by k_asm) (by k_asm) ?N ?_; (case N => first | k_asm | exact News.tl (by k_asm) | exact News.tl (News.tl (by k_asm)) | exact News.tl (News.tl (News.tl (by k_asm))))); intro _)
  k_with "setAttr ref" => ((with_reducible show wpAny _ _ (setAttr (Value.ref _) (Str.ofString "chunk") _) _ _ _); (with_reducible rename LedR _ _ _ _ _ _ _ _ _ _ _ _ _ _ => hLo); k_dflt (refine s_chunk hLo (by k_asm) (by k_asm) ?N ?_; (case N => first | k_asm | exact News.tl (by k_asm) | exact News.tl (News.tl (by k_asm)) | exact News.tl (News.tl (News.tl (by k_asm))))); intro h' n' F' N' hL'; (try k_sweep); clear hLo)
  k_with "setAttr ref" => ((with_reducible show wpAny _ _ (setAttr (Value.ref _) (Str.ofString "chunk") (Value.str (Str.ofString "") _)) _ _ _); (with_reducible rename LedR _ _ _ _ _ _ _ _ _ _ _ _ _ _ => hLo); k_dflt (refine s_chunk0 hLo (by k_asm) (by k_asm) ?N ?_; (case N => first | k_asm | exact News.tl (by k_asm) | exact News.tl (News.tl (by k_asm)) | exact News.tl (News.tl (News.tl (by k_asm))))); intro h' n' F' N' hL'; (try k_sweep); clear hLo)
  k_with "setAttr ref" => ((with_reducible show wpAny _ _ (setAttr (Value.ref _) (Str.ofString "chunkSize") _) _ _ _); (with_reducible rename LedR _ _ _ _ _ _ _ _ _ _ _ _ _ _ => hLo); k_dflt (refine s_size hLo (by k_asm) (by k_asm) ?N ?_; (case N => first | k_asm | exact News.tl (by k_asm) | exact News.tl (News.tl (by k_asm)) | exact News.tl (News.tl (News.tl (by k_asm))))); intro h' n' F' N' hL'; (try k_sweep); clear hLo)
  k_with "setAttr ref" => ((with_reducible show wpAny _ _ (setAttr (Value.ref _) (Str.ofString "chunkOffset") _) _ _ _); (with_reducible rename LedR _ _ _ _ _ _ _ _ _ _ _ _ _ _ => hLo); k_dflt (refine s_off hLo (by k_asm) (by k_asm) ?N ?_; (case N => first | k_asm | exact News.tl (by k_asm) | exact News.tl (News.tl (by k_asm)) | exact News.tl (News.tl (News.tl (by k_asm))))); intro h' n' F' N' hL'; (try k_sweep); clear hLo)
  k_with "setAttr ref" => ((with_reducible show wpAny _ _ (setAttr (Value.ref _) (Str.ofString "prevNumLines") _) _ _ _); (with_reducible rename LedR _ _ _ _ _ _ _ _ _ _ _ _ _ _ => hLo); k_dflt (refine s_pl hLo (by k_asm) (by k_asm) ?N ?_; (case N => first | k_asm | exact News.tl (by k_asm) | exact News.tl (News.tl (by k_asm)) | exact News.tl (News.tl (News.tl (by k_asm))))); intro h' n' F' N' hL'; (try k_sweep); clear hLo)
  k_with "setAttr ref" => ((with_reducible show wpAny _ _ (setAttr (Value.ref _) (Str.ofString "prevNumCols") _) _ _ _); (with_reducible rename LedR _ _ _ _ _ _ _ _ _ _ _ _ _ _ => hLo); k_dflt (refine s_pc hLo (by k_asm) (by k_asm) ?N ?_; (case N => first | k_asm | exact News.tl (by k_asm) | exact News.tl (News.tl (by k_asm)) | exact News.tl (News.tl (News.tl (by k_asm))))); intro h' n' F' N' hL'; (try k_sweep); clear hLo)
  k_with "setAttr ref" => ((with_reducible show wpAny _ _ (setAttr (Value.ref _) (Str.ofString "_bufferedCharacter") _) _ _ _); (with_reducible rename LedR _ _ _ _ _ _ _ _ _ _ _ _ _ _ => hLo); k_dflt (refine s_buf (by first | exact BufIs.none | exact BufIs.some | assumption) hLo (by k_asm) (by k_asm) ?N ?_; (case N => first | k_asm | exact News.tl (by k_asm) | exact News.tl (News.tl (by k_asm)) | exact News.tl (News.tl (News.tl (by k_asm))))); intro h' n' F' N' hL'; (try k_sweep); clear hLo)
  k_with "setAttr ref" => ((with_reducible show wpAny _ _ (setAttr (Value.ref _) (Str.ofString "place") _) _ _ _); (with_reducible rename LedR _ _ _ _ _ _ _ _ _ _ _ _ _ _ => hLo); k_dflt (refine s_place hLo (by assumption) (by k_asm) (by k_asm) ?N ?_; (case N => first | k_asm | exact News.tl (by k_asm) | exact News.tl (News.tl (by k_asm)) | exact News.tl (News.tl (News.tl (by k_asm))))); intro h' n' F' N' hL'; (try k_sweep); clear hLo)
  k_with "getMethod ref" => ((with_reducible show wpAny _ _ (getMethod (Value.ref _) (Str.ofString "_position") _) _ _ _); k_dflt (refine m_pos_ (by assumption) (by k_asm) (by k_asm) ?N ?_; (case N => first | k_asm | exact News.tl (by k_asm) | exact News.tl (News.tl (by k_asm)) | exact News.tl (News.tl (News.tl (by k_asm))))))
  k_with "getMethod ref" => ((with_reducible show wpAny _ _ (getMethod (Value.ref _) (Str.ofString "position") _) _ _ _); k_dflt (refine m_pos (by assumption) (by k_asm) (by k_asm) ?N ?_; (case N => first | k_asm | exact News.tl (by k_asm) | exact News.tl (News.tl (by k_asm)) | exact News.tl (News.tl (News.tl (by k_asm))))))
  k_with "getMethod ref" => ((with_reducible show wpAny _ _ (getMethod (Value.ref _) (Str.ofString "char") _) _ _ _); k_dflt (refine m_char (by assumption) (by k_asm) (by k_asm) ?N ?_; (case N => first | k_asm | exact News.tl (by k_asm) | exact News.tl (News.tl (by k_asm)) | exact News.tl (News.tl (News.tl (by k_asm))))))
  k_with "getMethod ref" => ((with_reducible show wpAny _ _ (getMethod (Value.ref _) (Str.ofString "readChunk") _) _ _ _); k_dflt (refine m_chunk (by assumption) (by k_asm) (by k_asm) ?N ?_; (case N => first | k_asm | exact News.tl (by k_asm) | exact News.tl (News.tl (by k_asm)) | exact News.tl (News.tl (News.tl (by k_asm))))))
  k_with "getMethod ref" => ((with_reducible show wpAny _ _ (getMethod (Value.ref _) (Str.ofString "unget") _) _ _ _); k_dflt (refine m_unget (by assumption) (by k_asm) (by k_asm) ?N ?_; (case N => first | k_asm | exact News.tl (by k_asm) | exact News.tl (News.tl (by k_asm)) | exact News.tl (News.tl (News.tl (by k_asm))))))
  k_with "getMethod ref" => ((with_reducible show wpAny _ _ (getMethod (Value.ref _) (Str.ofString "charsUntil") _) _ _ _); k_dflt (refine m_until (by assumption) (by k_asm) (by k_asm) ?N ?_; (case N => first | k_asm | exact News.tl (by k_asm) | exact News.tl (News.tl (by k_asm)) | exact News.tl (News.tl (News.tl (by k_asm))))))
  k_with "getMethod ref" => ((with_reducible show wpAny _ _ (getMethod (Value.ref _) (Str.ofString "read") _) _ _ _); k_dflt (refine m_read (by assumption) (by assumption) (by k_asm) (by k_asm) ?N ?_; (case N => first | k_asm | exact News.tl (by k_asm) | exact News.tl (News.tl (by k_asm)) | exact News.tl (News.tl (News.tl (by k_asm))))))
  k_with "getMethod ref" => ((with_reducible show wpAny _ _ (getMethod (Value.ref _) (Str.ofString "reportCharacterErrors") _) _ _ _); k_dflt (refine m_rep (by assumption) (by k_asm) (by k_asm) ?N ?_; (case N => first | k_asm | exact News.tl (by k_asm) | exact News.tl (News.tl (by k_asm)) | exact News.tl (News.tl (News.tl (by k_asm))))); intro _ hR1)
  k_with "getMethod ref" => ((with_reducible show wpAny _ _ (getMethod (Value.ref _) (Str.ofString "append") _) _ _ _); k_dflt (refine m_append (by assumption) (by assumption) (by k_asm) (by k_asm) ?N ?_; (case N => first | k_asm | exact News.tl (by k_asm) | exact News.tl (News.tl (by k_asm)) | exact News.tl (News.tl (News.tl (by k_asm))))))
  k_with "call builtin:list.append" => ((with_reducible rename LedR _ _ _ _ _ _ _ _ _ _ _ _ _ _ => hLo); k_dflt (refine app_err hLo (by assumption) (by k_asm) (by k_asm) ?N (by lia) ?_; (case N => first | k_asm | exact News.tl (by k_asm) | exact News.tl (News.tl (by k_asm)) | exact News.tl (News.tl (News.tl (by k_asm))))); intro h' n' F' N' hL'; (try k_sweep); clear hLo)
  k_with "call ref" => ((with_reducible show wpAny _ _ (call (Value.ref 121) _) _ _ _); (with_reducible rename LedR _ _ _ _ _ _ _ _ _ _ _ _ _ _ => hLo); k_dflt ((refine' Spec.useS (until_new (st := st) hLo (by assumption) (in_tup (q := []) .nil) _ (.inr ⟨rfl, rfl⟩) e2 hn6) ?B ?F ?X ?N ?T ?hk ?hd ?hu ?_); (case B => k_asm); (case F => k_asm); (case X => k_asm); (case T => k_asm); (case hk => first | exact rfl | assumption); (case N => first | k_asm | exact News.tl (by k_asm) | exact News.tl (News.tl (by k_asm)) | exact News.tl (News.tl (News.tl (by k_asm)))); (case hd => ktr_room); (case hu => ktr_units); intro tl n' h' tk' hL' hle' F' N'; (clear hLo); (unfold LedIs at hL'); (try dsimp only); (try k_fold)))
  k_with "call ref" => ((with_reducible show wpAny _ _ (call (Value.ref 98) _) _ _ _); (with_reducible rename LedR _ _ _ _ _ _ _ _ _ _ _ _ _ _ => hLo); k_dflt ((refine' Spec.useV (char_none c1 (char_spec (st := st6) hLo o1 o2 o3 o4)) ?B ?F ?X ?N ?T ?hk ?hd ?hu ?_); (case B => k_asm); (case F => k_asm); (case X => k_asm); (case T => k_asm); (case hk => first | exact rfl | assumption); (case N => first | k_asm | exact News.tl (by k_asm) | exact News.tl (News.tl (by k_asm)) | exact News.tl (News.tl (News.tl (by k_asm)))); (case hd => ktr_room); (case hu => ktr_units); intro n' h' tk' hL' hle' F' N'; (clear hLo); (unfold LedIs at hL'); (try dsimp only); (try k_fold)))
  k_with "call ref" => ((with_reducible show wpAny _ _ (call (Value.ref 106) _) _ _ _); (with_reducible rename LedR _ _ _ _ _ _ _ _ _ _ _ _ _ _ => hLo); k_dflt ((refine' Spec.useV (chunk_spec (st := st7) hLo 2 _ q1 q2 q3 q4 (by decide)) ?B ?F ?X ?N ?T ?hk ?hd ?hu ?_); (case B => k_asm); (case F => k_asm); (case X => k_asm); (case T => k_asm); (case hk => first | exact rfl | assumption); (case N => first | k_asm | exact News.tl (by k_asm) | exact News.tl (News.tl (by k_asm)) | exact News.tl (News.tl (News.tl (by k_asm)))); (case hd => ktr_room); (case hu => ktr_units); (rw [f3, hst8]); intro n' h' tk' hL' hle' F' N'; (clear hLo); (unfold LedIs at hL'); (try dsimp only); (try k_fold)))
  k_with "subscriptTail Name Slice ref ref" => ((with_reducible rename Fr _ _ _ _ => F9); (with_reducible rename News _ _ _ _ => N9); (with_reducible rename LedR _ _ _ _ _ _ _ _ _ _ _ _ _ _ => hLo); k_dflt (refine' from_L (a := p) (s := ⟨_, _, _, _, _⟩) F9 N9 (News.isList N9 (LedR.mem_rest hLo hg)) hS ?ma ?mc ?_; (case ma => exact hple); (case mc => exact Nat.le_trans hnl (Nat.le_trans w1 (by decide)))); (clear F9 N9); (intro Dm wm hm' Fm Nm l1m hSm))
  k_with "call builtin:str.join" => (k_dflt (refine join_sg of_empty (News.isList (by k_asm) (.head _)) hSm hl100 ?_); intro t' k')
  k_with "compareOp NotEq str str" => ((with_reducible show wpAny _ _ (compareOp CmpOp.NotEq (Value.str (S _) _) (Value.str (S _) _)) _ _ _); k_dflt (refine ne_no e3 ?_))
  k_with "call ref" => ((with_reducible show wpAny _ _ (call (Value.ref 91) _) _ _ _); (with_reducible rename LedR _ _ _ _ _ _ _ _ _ _ _ _ _ _ => hLo); k_dflt ((refine' Spec.usePos (position_spec st8.off hLo r5 r3) rfl ?B ?F ?X ?N ?T ?hk ?hd ?hu ?_); (case B => k_asm); (case F => k_asm); (case X => k_asm); (case T => k_asm); (case hk => first | exact rfl | assumption); (case N => first | k_asm | exact News.tl (by k_asm) | exact News.tl (News.tl (by k_asm)) | exact News.tl (News.tl (News.tl (by k_asm)))); (case hd => ktr_room); (case hu => ktr_units); intro D' ta' tb' h' tk' hlt' hle' F' N'; (clear hlt'); (try dsimp only); (try k_fold)))
  k_with "subscriptTail" => ((with_reducible show wpAny _ _ (subscriptTail _ _ (Value.ref Dp) (Value.int (-1) _)) _ _ _); (with_reducible rename LedR _ _ _ _ _ _ _ _ _ _ _ _ _ _ => hLo); k_dflt (refine item_last (News.isList (by first | k_asm | exact News.tl (by k_asm)) (LedR.mem_rest hLo (by first | exact hp | exact .tail _ hp))) ?_))
  k_with "exec Assign cons ListComp" => (k_dflt (refine LCt.Assign_ListComp_T (F₀ := by k_asm) (by rfl) (by with_unfolding_all rfl) (by with_unfolding_all rfl) (by decide) (by rfl) (by decide) (by rfl) (by rfl) (by rfl) ?_))
  k_with "CompSrcT" => ((with_reducible rename LedR _ _ _ _ _ _ _ _ _ _ _ _ _ _ => hLo); k_dflt (refine LCt.CompSrcT.ledger (by rfl) (by k_asm) (by k_asm) (LedR.mem_rest hLo hg) (by rw [List.size_toArray, hgl, PySem.sizeLine_eq]; lia) ?_); intro g'; k_dflt (refine restT_inv (fun i ys nw => nw = _ ∧ StrsAre ys (List.replicate (((norm R).take i).countP badS) sInv)) ⟨rfl, .nil⟩ ?ca ?cb); (case' ca => intro i v ys nw I oI C oC D m₂ h tk E' hi' hP' hJ hC hx F' N' off ne; (obtain ⟨hnw, hS'⟩ := hJ); subst hnw; (obtain ⟨c, tc, hc, hv⟩ := sg_at hS (by simpa using hP')); subst hv; (have hok := hcode c (List.mem_of_getElem? hc)); (try k_fold)); (case' cb => intro ys nw hJ; (obtain ⟨hnw, hS'⟩ := hJ); subst hnw; (rw [List.size_toArray, hgl, List.take_length] at hS'); intro D2 h2 tk2 F2 N2 off2; (with_reducible rename LedR _ _ _ _ _ _ _ _ _ _ _ _ _ _ => hLo); (obtain ⟨n2, hL2, N3⟩ := LedR.pushN hLo (off1_all off2) N2); (clear hLo N2); (try dsimp only); (try k_fold)))
  k_with "CompEnd" => ((with_reducible show LCg.CompEnd _ _ _ _ _ _ _ _ _ _ _ _ _ _); (with_reducible rename News _ _ _ _ => N9); (rename (List.any _ _ = _) => hany); (rw [es1, es2] at hany); (with_reducible rename LedR _ _ _ _ _ _ _ _ _ _ _ _ _ _ => hLo); k_dflt (refine LCg.CompEnd.intro (by assumption) (News.tl N9) _ (fun p hp => hp) (by assumption) (.inr ⟨_, LedR.mem_rest hLo hg, rfl, _, rfl⟩) ⟨rfl, ?_⟩); first | exact rep_yes hc hany hS' | exact rep_no hc hany hS')
  k_with "compareOp Eq ref ref" => (k_here; (with_reducible show wpAny _ _ (compareOp CmpOp.Eq (Value.ref _) (Value.ref Tl)) _ _ _); (with_reducible rename LedR _ _ _ _ _ _ _ _ _ _ _ _ _ _ => hLo); k_dflt (refine' eq_tup2_yes ?epN ?epa ?epb ?epu ?ep1 ?ep2 ?_; (case epN => k_asm); (case epa => exact .head _); (case epb => exact .tail _ (LedR.mem_rest hLo (.tail _ hTl))); (case epu => ke_room); (case ep1 => rw [hal, hsp]; rfl); (case ep2 => rw [hbl, hsp]; rfl); k_whole))
  k_with "compareOp Eq ref ref" => (k_here; (with_reducible show wpAny _ _ (compareOp CmpOp.Eq (Value.ref _) (Value.ref D2)) _ _ _); (with_reducible rename LedR _ _ _ _ _ _ _ _ _ _ _ _ _ _ => hLo); (obtain ⟨ev, ep, hm1, hs1⟩ := e_list hLo (by assumption)); (with_reducible rename News _ _ _ _ => N9); (have N8 := News.tl N9); k_dflt (refine eq_rep_yes (v := sInv) (News.isList N8 hm1) (News.isList N8 (LedR.mem_rest hLo (.head _))) hs1 hS' (by decide +kernel) (by ke_room) hne ?_); (clear hm1 hs1))
  k_steps
  · exact hret _ _ _ _ (by assumption) (by assumption)
end
theorem base4_eq {x Dp Dg : Addr} {R : List Nat} {tx : Tok} {vt vc : Value} {z : Str} : (if z = Str.ofString "stream" then some (Value.ref x) else if z = Str.ofString "places" then some (Value.ref Dp) else if z = Str.ofString "signs" then some (Value.ref Dg) else if z = Str.ofString "text" then some (Value.str (S R) tx) else if z = Str.ofString "numbers" then some vt else List.lookup z [(Str.ofString "script", vc)].reverse) = base4 x Dp Dg R tx vt vc z := by
  unfold base4
  by_cases a1 : z = Str.ofString "stream"
  · subst a1; rfl
  by_cases a2 : z = Str.ofString "places"
  · subst a2; rfl
  by_cases a3 : z = Str.ofString "signs"
  · subst a3; rfl
  by_cases a4 : z = Str.ofString "text"
  · subst a4; rfl
  by_cases a5 : z = Str.ofString "numbers"
  · subst a5; rfl
  rw [if_neg a1, if_neg a2, if_neg a3, if_neg a4, if_neg a5]
  have b1 : (z == Str.ofString "stream") = false := beq_false_of_ne a1
  have b2 : (z == Str.ofString "places") = false := beq_false_of_ne a2
  have b3 : (z == Str.ofString "signs") = false := beq_false_of_ne a3
  have b4 : (z == Str.ofString "text") = false := beq_false_of_ne a4
  have b5 : (z == Str.ofString "numbers") = false := beq_false_of_ne a5
  simp only [List.lookup, b1, b2, b3, b4, b5, List.reverse_cons, List.reverse_nil, List.nil_append]
theorem nums4_some {ns : List Int} (h : 0 < ns.length) : nums4 ns = ns.take 16 := if_neg (fun e => by rw [e] at h; exact Nat.lt_irrefl _ h)
theorem nums4_none {ns : List Int} (h : ¬ 0 < ns.length) : nums4 ns = [13] := if_pos (List.eq_nil_of_length_eq_zero (Nat.eq_zero_of_not_pos h))
theorem sgn4_map (l : List Int) : (l.map fun n => S (sgn4 n)) = (l.map sgn4).map S := by rw [List.map_map]; rfl
section
variable {w : World} {mean : ExcName → Option Value} {mg mb : Str → Option Value} {news : List (Addr × Obj)}
set_option maxRecDepth 100000 in
set_option maxHeartbeats 8000000 in
theorem head_spec {l : Addr} {es : List Value} {nn : Nat} {ns : List Int} (hn : news = [(l, W.listOf es.toArray nn)]) (hIt : IntsAre es (nums4 ns))
    (bd : List Stmt) (sc : Scope) (hb : lawB.drop 1 = bd) (hs : lawSc = sc) {vc : Value}
    (dp un : Nat) (gd : Option (List Code)) (a : Addr) (ccd : Value) (cl : List (Str × Addr)) (outer : List Env) (A₀ : Around) (base h₀ : Heap) (L : Addr) (s : Shared) (Q : Flow → Shared → Prop) (E : Value → Shared → Prop)
    (B : Below A₀ base outer h₀) (F : Fr h₀ L s.heap (fun y => if y = Str.ofString "numbers" then some (.ref l) else List.lookup y [(Str.ofString "script", vc)].reverse))
    (X : (hd04.heap_39 w.params).In h₀) (N : News h₀ L s.heap news) (T : Top hd04.view_39 loose mean mg mb h₀) (hd : dp + 100 < recursionLimit) (hu : un + 800 < cLine) (hE : PassesOwn (model PySem.Challenge.pw_te0074_04 w) (ktrTop dp un gd (Str.ofString "law") sc L a ccd cl outer) (envOf (Str.ofString "law") sc L a ccd) E)
    (hret : ∀ h' tk' m' nw', Fr h₀ L h' m' → News h₀ L h' nw' → Q (.ret (.bool true)) { s with heap := h', toks := tk' }) :
    wpAny (model PySem.Challenge.pw_te0074_04 w) (ktrTop dp un gd (Str.ofString "law") sc L a ccd cl outer) (execs bd (envOf (Str.ofString "law") sc L a ccd)) Q E s := by
  conv at hb => lhs; whnf
  conv at hs => lhs; whnf
  subst hb hs hn
  have hnl4 := nums4_len ns
  have hel := IntsAre.length hIt
  k_with_none
  k_with "tb" => (first | assumption | (apply le3; assumption; exact rfl) | lia | (simp only [List.length_append, List.length_cons, List.length_nil, List.length_take, List.length_drop, List.length_dropLast, crs_len, partOf_len] at *; lia) | ((with_reducible refine Nat.le_trans (crlf_len _) ?_); tb_start) | ((with_reducible refine Nat.le_trans (split_len _) ?_); tb_start) | ((with_reducible refine Nat.le_trans (norm_len _) ?_); tb_start))
  k_with "call builtin:str.count" => (refine count4 (by decide +kernel) (by first | assumption | lia) ?_)
  k_with "call builtin:str.rfind" => (refine rfind4 (by decide +kernel) (by first | assumption | lia) ?_)
  k_with "call builtin:str.replace" => ((try dsimp only at *); k_dflt (refine repl_crlf_S (by decide +kernel) (by decide +kernel) (by k_ne) (by k_ne) (by k_ne) (by tb_start) ?_); intro _ _ _)
  k_with "call builtin:str.replace" => ((try dsimp only at *); k_dflt (refine repl_cr_S (by decide +kernel) (by decide +kernel) (by k_ne) (by k_ne) (by k_ne) (by tb_start) ?_); intro _ _ _)
  k_with "call builtin:len" => ((with_reducible show wpAny _ _ (call (Value.builtin "len") [Value.str (S _) _]) _ _ _); refine len_S (by tb_start) ?_)
  k_with "call builtin:ord" => ((with_reducible show wpAny _ _ (call (Value.builtin "ord") [Value.str (S _) _]) _ _ _); refine ord_S ?_)
  k_with "binaryOp Add str str" => ((with_reducible show wpAny _ _ (binaryOp Operator.Add (Value.str (S _) _) (Value.str (S _) _)) _ _ _); refine add_S (by tb_start) ?_; intro _ _)
  k_with "inplaceOp Add str str" => ((with_reducible show wpAny _ _ (inplaceOp Operator.Add (Value.str (S _) _) (Value.str (S _) _)) _ _ _); refine iadd_S (by tb_start) ?_; intro _ _)
  k_with "truthy str" => ((with_reducible show wpAny _ _ (truthy (Value.str (S _) _)) _ _ _); refine truthy_S (by tb_start) ?_)
  k_with "compareOp Eq str str" => ((with_reducible show wpAny _ _ (compareOp CmpOp.Eq (Value.str (S _) _) (Value.str (S _) _)) _ _ _); refine eq_S ?_)
  k_with "compareOp NotEq str str" => ((with_reducible show wpAny _ _ (compareOp CmpOp.NotEq (Value.str (S _) _) (Value.str (S _) _)) _ _ _); refine ne_S ?_)
  k_with "subscriptTail Name Slice str ref" => (k_here; (with_reducible rename Fr _ _ _ _ => F'); (with_reducible rename News _ _ _ _ => N'); k_dflt (refine drop_S (s := ⟨_, _, _, _, _⟩) F' N' (by tb_start) ?_); intro _ _ _ _ _; (try k_sweep))
  k_with "subscriptTail Name Slice str ref" => (k_here; (with_reducible rename Fr _ _ _ _ => F'); (with_reducible rename News _ _ _ _ => N'); k_dflt (refine take_S (s := ⟨_, _, _, _, _⟩) F' N' (by tb_start) ?_); intro _ _ _ _ _; (try k_sweep))
  k_with "subscriptTail Name Slice str ref" => (k_here; (with_reducible rename Fr _ _ _ _ => F'); (with_reducible rename News _ _ _ _ => N'); k_dflt (refine mid_S (s := ⟨_, _, _, _, _⟩) F' N' (by tb_start) ?_); intro _ _ _ _ _; (try k_sweep))
  k_with "subscriptTail Name Slice str ref" => (k_here; (with_reducible rename Fr _ _ _ _ => F'); (with_reducible rename News _ _ _ _ => N'); k_dflt (refine part_S (s := ⟨_, _, _, _, _⟩) F' N' (by tb_start) ?_); intro _ _ _ _ _; (try k_sweep))
  k_with "subscriptTail Name Slice str ref" => (k_here; (with_reducible rename Fr _ _ _ _ => F'); (with_reducible rename News _ _ _ _ => N'); k_dflt (refine init_S (s := ⟨_, _, _, _, _⟩) F' N' (by tb_start) ?_); intro _ _ _ _ _; (try k_sweep))
  k_with "subscriptTail Name UnaryOp str int" => (k_here; (with_reducible show wpAny _ _ (subscriptTail _ _ (Value.str (S _) _) (Value.int _ _)) _ _ _); k_dflt (first | (refine last_S (by first | assumption | (intro hz; simp only [hz, List.length_nil] at *; lia)) (by tb_start) ?_) | (refine item_S (by first | assumption | lia | k_extra "my item") (by tb_start) ?_)))
  k_with "subscriptTail Name Name str int" => (k_here; (with_reducible show wpAny _ _ (subscriptTail _ _ (Value.str (S _) _) (Value.int _ _)) _ _ _); first | (with_reducible refine item_S (by k_dflt (first | assumption | lia | k_extra "my item")) (by k_dflt tb_start) ?_) | k_dflt (refine item_Si (by lia) (by first | lia | k_extra "my item") (by tb_start) ?_))
  k_with "subscriptTail Name Constant str int" => (k_here; (with_reducible show wpAny _ _ (subscriptTail _ _ (Value.str (S _) _) (Value.int _ _)) _ _ _); first | (with_reducible refine item_S (by k_dflt (first | assumption | lia | k_extra "my item")) (by k_dflt tb_start) ?_) | k_dflt (refine item_Si (by lia) (by first | lia | k_extra "my item") (by tb_start) ?_))
  k_with "subscriptTail Name BinOp str int" => (k_here; (with_reducible show wpAny _ _ (subscriptTail _ _ (Value.str (S _) _) (Value.int _ _)) _ _ _); first | (with_reducible refine item_S (by k_dflt (first | assumption | lia | k_extra "my item")) (by k_dflt tb_start) ?_) | k_dflt (refine item_Si (by lia) (by first | lia | k_extra "my item") (by tb_start) ?_))
  k_with "subscriptTail Attribute Name str int" => (k_here; (with_reducible show wpAny _ _ (subscriptTail _ _ (Value.str (S _) _) (Value.int _ _)) _ _ _); first | (with_reducible refine item_S (by k_dflt (first | assumption | lia | k_extra "my item")) (by k_dflt tb_start) ?_) | k_dflt (refine item_Si (by lia) (by first | lia | k_extra "my item") (by tb_start) ?_))
  k_with "subscriptTail Attribute Constant str int" => (k_here; (with_reducible show wpAny _ _ (subscriptTail _ _ (Value.str (S _) _) (Value.int _ _)) _ _ _); first | (with_reducible refine item_S (by k_dflt (first | assumption | lia | k_extra "my item")) (by k_dflt tb_start) ?_) | k_dflt (refine item_Si (by lia) (by first | lia | k_extra "my item") (by tb_start) ?_))
  k_with "subscriptTail Attribute Attribute str int" => (k_here; (with_reducible show wpAny _ _ (subscriptTail _ _ (Value.str (S _) _) (Value.int _ _)) _ _ _); first | (with_reducible refine item_S (by k_dflt (first | assumption | lia | k_extra "my item")) (by k_dflt tb_start) ?_) | k_dflt (refine item_Si (by lia) (by first | lia | k_extra "my item") (by tb_start) ?_))
  k_with "truthy ref" => (k_here; k_dflt (refine' truthy_meth ?N ?q ?_; (case N => k_asm); (case q => k_mem); k_whole))
  k_with "exec For Name Name cons nil" => (k_here; (with_reducible rename Fr _ _ _ _ => lF'); k_dflt (refine' For_invVF lF' ?k1 ?k2 ?_; (case k1 => exact rfl); (case k2 => exact rfl); k_whole))
  k_with "exec For Name Subscript cons nil" => (k_here; (with_reducible rename Fr _ _ _ _ => lF'); k_dflt (refine' For_invVF lF' ?k1 ?k2 ?_; (case k1 => exact rfl); (case k2 => exact rfl); k_whole))
  k_with "all" => (refine List.forall_mem_append.mpr ⟨?a, ?b⟩; (case a => k_all); (case b => k_all))
  k_with "rel" => (simp only [List.size_toArray]; rw [PySem.sizeLine_eq]; lia)
  k_with "call builtin:list.append" => (k_here; (with_reducible show wpAny _ _ (call (Value.builtin _) [Value.ref _, _]) _ _ _); k_dflt (refine' append_K ?k1 ?k2 ?k3 ?_ ?z; (case k1 => k_asm); (case k2 => k_asm); (case k3 => k_upd); (case z => tb_rel); k_whole); intro h' F' N'; (try simp only [List.push_toArray] at N'); (try k_sweep))
  k_with "enter" => (refine' code_def ?k1 ?k2 ?k3 ?k4 ?k5 ?kA ?kF ?kK ?k6 ?k7 ?k8 ?k9 ?kB ?_ ?c2 ?c3 ?c4 ?c5; (case kA => exact rfl); (case kF => exact rfl); (case kK => assumption); (case k1 => k_asm); (case k2 => k_asm); (case k3 => k_asm); (case k4 => k_asm); (case k5 => k_asm); (case k6 => k_is); (case k7 => k_is); (case k8 => ktr_room); (case k9 => first | exact BindsTo.of_eq rfl | exact binds_K (by k_in) rfl (by k_is) rfl rfl rfl); (case c5 => decide); (case kB => exact locs rfl); (case c2 => exact rfl); (case c3 => exact rfl); (case c4 => exact rfl); k_whole; intro g' L' h' FG' F' N' B' X' T'; (try dsimp only); (try k_lift B'); (try k_fold))
  k_with "JoinP" => (dsimp only [JoinP])
  k_with "subscriptTail" => (k_here; (with_reducible show wpAny _ _ (subscriptTail _ _ (Value.str (S _) _) (Value.int _ _)) _ _ _); first | (with_reducible refine item_S (by k_dflt (first | assumption | lia | k_extra "my item")) (by k_dflt tb_start) ?_) | k_dflt (refine item_Si (by lia) (by first | lia | k_extra "my item") (by tb_start) ?_))
  k_with "compareOp Eq str str" => ((with_reducible show wpAny _ _ (compareOp CmpOp.Eq (Value.str (S _) _) (Value.str (Str.ofString _) _)) _ _ _); k_dflt (first | refine eq_lit [13] (by decide +kernel) ?_ | refine eq_lit [10] (by decide +kernel) ?_))
  k_with "compareOp NotEq str str" => ((with_reducible show wpAny _ _ (compareOp CmpOp.NotEq (Value.str (S _) _) (Value.str (Str.ofString _) _)) _ _ _); k_dflt (first | refine ne_lit [13] (by decide +kernel) ?_ | refine ne_lit [10] (by decide +kernel) ?_))
  k_with "inplaceOp Add str str" => ((with_reducible show wpAny _ _ (inplaceOp Operator.Add (Value.str (S _) _) (Value.str (Str.ofString _) _)) _ _ _); k_dflt (refine iadd_lit [10] (by decide +kernel) (by tb_start) ?_); intro _ _)
  k_with "room" => (k_dflt ((first | apply room4 | apply room3 | apply room2 | apply room1 | apply room0 | apply roomz); assumption; exact rfl))
  k_with "eval ListComp" => ((with_reducible show wpAny _ _ (eval (Expr.ListComp (Expr.Subscript _ _ _) _ _ _) _) _ _ _); k_dflt (refine LCg.ListComp_U (F₀ := by k_asm) (by with_unfolding_all rfl) (by decide) (by rfl) (by decide) (by rfl) ?_))
  repeat' ((fail_if_success (with_reducible show LCg.CompSrc _ _ _ _ _ _ _ _ _ _ _ _ _ _)); first | (k_unfold; (try dsimp only)) | (k_end; wrow_close) | walk1 | (dsimp only; walk1) | (leave1; try dsimp only))
  k_dflt (refine LCg.CompSrc.ledger (by rfl) (by k_asm) (by k_asm) (.head _) (by rw [List.size_toArray, hel, PySem.sizeLine_eq]; lia) ?_); intro g'
  k_dflt (refine rest_inv (fun i ys nw => nw = _ ∧ StrsAre ys (((nums4 ns).take i).map fun n => S (sgn4 n))) ⟨rfl, .nil⟩ ?ca ?cb)
  case ca =>
    intro i v ys nw I oI C oC D m₂ h tk E' hi hP hJ hC hx F' N' off ne
    obtain ⟨rfl, hS⟩ := hJ
    obtain ⟨k, t, rfl, hk⟩ := IntsAre.at hIt i v (by simpa using hP)
    (try simp only [LCg.Off3, and_true] at off)
    (try k_fold)
    k_steps
    rw [sgn4_str, map_take (l := nums4 ns) _ hk]
    exact kct_snoc hS
  case cb =>
    rintro ys nw ⟨rfl, hS⟩
    have hlt : ∀ m : Nat, m = (nums4 ns).length → (nums4 ns).take m = nums4 ns := fun m h => by rw [h, List.take_length]
    rw [hlt _ (by rw [List.size_toArray]; exact hel)] at hS
    rw [sgn4_map] at hS
    have hrl := raw4_len ns
    obtain ⟨R, hR⟩ : ∃ R, raw4 ns = R := ⟨_, rfl⟩
    rw [hR] at hrl
    have hR' : ((nums4 ns).map sgn4).flatten = R := hR
    have hraw : Raw R := hR ▸ raw4_raw ns
    have hnl := norm_len R
    k_with "call builtin:str.join" => (k_dflt (refine join_S (ls := (nums4 ns).map sgn4) hR' of_empty (News.isList (by k_asm) (.head _)) hS (by rw [List.length_map]; exact Nat.le_trans hnl4 (by decide)) (fun l hl => by obtain ⟨z, _, rfl⟩ := List.mem_map.mp hl; exact Nat.le_trans (sgn4_len z) (by decide)) ?_); intro t' k')
    k_with "call ref" => ((with_reducible show wpAny _ _ (call (Value.ref 150) _) _ _ _); k_dflt ((refine' Spec.useList (mended4_spec _ _ (Nat.le_trans hrl (by decide)) _) ?B ?F ?X ?N ?T ?hk ?hd ?hu ?_); (case B => k_asm); (case F => k_asm); (case X => k_asm); (case T => k_asm); (case hk => first | exact rfl | assumption); (case N => first | k_asm | exact News.tl (by k_asm) | exact News.tl (News.tl (by k_asm)) | exact News.tl (News.tl (News.tl (by k_asm)))); (case hd => ktr_room); (case hu => ktr_units); intro D8 gs ng h' tk' hlt' hS8 hle' F' N'; (try k_lt hlt'); (try dsimp only); (try k_fold)))
    k_with "call ref" => ((with_reducible show wpAny _ _ (call (Value.ref 164) _) _ _ _); k_dflt ((refine' Spec.usePl (places_spec (norm R) (Nat.le_trans hnl (Nat.le_trans hrl (by decide))) (.head _) hS8) ?B ?F ?X ?N ?T ?hk ?hd ?hu ?_); (case B => k_asm); (case F => k_asm); (case X => k_asm); (case T => k_asm); (case hk => first | exact rfl | assumption); (case N => first | k_asm | exact News.tl (by k_asm) | exact News.tl (News.tl (by k_asm)) | exact News.tl (News.tl (News.tl (by k_asm)))); (case hd => ktr_room); (case hu => ktr_units); intro Dp ws np r9 h' tk' hsub9 hP9 hle' F' N'; (try dsimp only); (try k_fold)))
    k_with "call ref" => ((with_reducible show wpAny _ _ (call (Value.ref 131) _) _ _ _); k_dflt ((refine' new_spec R _ (Nat.le_trans hrl (by decide)) ?B ?F ?X ?N ?T ?hk ?hd ?hu ?_); (case B => k_asm); (case F => k_asm); (case X => k_asm); (case T => k_asm); (case hk => first | exact rfl | assumption); (case N => k_asm); (case hd => ktr_room); (case hu => ktr_units); (intro ad x n' h' tk' hL' F' N'); (try k_sweep); (try dsimp only); (try k_fold)))
    (try k_fold)
    repeat' ((fail_if_success (with_reducible show wpAny _ _ (pyIter _) _ _ _)); first | (k_unfold; (try dsimp only)) | (k_end; wrow_close) | walk1 | (dsimp only; walk1) | (leave1; try dsimp only))
    (rename Fr _ _ _ _ => F9)
    (rename News _ _ _ _ => N9)
    have hgm : (D8, W.listOf gs.toArray ng) ∈ (Dp, W.listOf ws.toArray np) :: r9 := .tail _ (hsub9 _ (.head _))
    have hP8 := hP9.mono (r' := (Dp, W.listOf ws.toArray np) :: r9) (fun q hq => .tail _ hq)
    k_dflt (refine' for_spec (st := ⟨[], 0, 0, 0, 0, none, 0⟩) (p := 0) (fh := false) hL' hgm hS8 (.head _) hP8 hraw hrl invG_start ?fmem hIt _ _ rfl rfl ?ff ?fm rfl ?B F9 ?X N9 ?T ?hd ?hu ?hE ?done)
    (case fmem => first | exact .tail _ (hsub9 _ (.tail _ (.head _))) | exact .tail _ (hsub9 _ (.tail _ (.tail _ (.head _)))))
    (case ff => exact fun h => by cases h)
    (case B => k_asm)
    (case X => k_asm)
    (case T => k_asm)
    (case hd => ktr_room)
    (case hu => ktr_units)
    (case hE => passes_own)
    (case fm => exact ⟨rfl, ⟨_, rfl⟩, ⟨_, rfl⟩, ⟨_, rfl⟩, ⟨_, rfl⟩, fun z a0 a1 a2 a3 a4 a5 a6 a7 a8 a9 => by (repeat (refine (if_neg (by assumption)).trans ?_)); exact base4_eq⟩)
    (case done =>
      intro h9 tk9 m9 st9 p9 fh9 nw9 hm9 hi9 hL9 Fa Na
      clear F9 N9
      obtain ⟨t6, t7, t8, t9, u0, u1, u2, u3, u4, rfl⟩ := hm9.lit
      (try dsimp only)
      k_dflt (refine' tail_spec hL9 hgm hS8 (.head _) hP8 hraw hrl hi9 _ _ rfl rfl _ _ _ _ _ _ _ _ _ _ _ _ _ _ ?B Fa ?X Na ?T ?hd ?hu ?hE ?ret)
      (case B => k_asm)
      (case X => k_asm)
      (case T => k_asm)
      (case hd => ktr_room)
      (case hu => ktr_units)
      (case hE => passes_own)
      (case ret =>
        intro h2 tk2 m2 nw2 F2 N2
        exact hret _ _ _ _ F2 N2))
end
set_option maxRecDepth 100000 in
set_option maxHeartbeats 8000000 in
theorem walk : PySem.Challenge.rw_te0074_04.Holds := by
  refine hd04 ?_
  k_go0
  all_goals (try k_fold)
  rename World => w
  rename List Int => ns
  k_with_none
  k_with "tb" => (first | assumption | (apply le3; assumption; exact rfl) | lia | (simp only [List.length_append, List.length_cons, List.length_nil, List.length_take, List.length_drop, List.length_dropLast, crs_len, partOf_len] at *; lia) | ((with_reducible refine Nat.le_trans (crlf_len _) ?_); tb_start) | ((with_reducible refine Nat.le_trans (split_len _) ?_); tb_start) | ((with_reducible refine Nat.le_trans (norm_len _) ?_); tb_start))
  k_with "call builtin:str.count" => (refine count4 (by decide +kernel) (by first | assumption | lia) ?_)
  k_with "call builtin:str.rfind" => (refine rfind4 (by decide +kernel) (by first | assumption | lia) ?_)
  k_with "call builtin:str.replace" => ((try dsimp only at *); k_dflt (refine repl_crlf_S (by decide +kernel) (by decide +kernel) (by k_ne) (by k_ne) (by k_ne) (by tb_start) ?_); intro _ _ _)
  k_with "call builtin:str.replace" => ((try dsimp only at *); k_dflt (refine repl_cr_S (by decide +kernel) (by decide +kernel) (by k_ne) (by k_ne) (by k_ne) (by tb_start) ?_); intro _ _ _)
  k_with "call builtin:len" => ((with_reducible show wpAny _ _ (call (Value.builtin "len") [Value.str (S _) _]) _ _ _); refine len_S (by tb_start) ?_)
  k_with "call builtin:ord" => ((with_reducible show wpAny _ _ (call (Value.builtin "ord") [Value.str (S _) _]) _ _ _); refine ord_S ?_)
  k_with "binaryOp Add str str" => ((with_reducible show wpAny _ _ (binaryOp Operator.Add (Value.str (S _) _) (Value.str (S _) _)) _ _ _); refine add_S (by tb_start) ?_; intro _ _)
  k_with "inplaceOp Add str str" => ((with_reducible show wpAny _ _ (inplaceOp Operator.Add (Value.str (S _) _) (Value.str (S _) _)) _ _ _); refine iadd_S (by tb_start) ?_; intro _ _)
  k_with "truthy str" => ((with_reducible show wpAny _ _ (truthy (Value.str (S _) _)) _ _ _); refine truthy_S (by tb_start) ?_)
  k_with "compareOp Eq str str" => ((with_reducible show wpAny _ _ (compareOp CmpOp.Eq (Value.str (S _) _) (Value.str (S _) _)) _ _ _); refine eq_S ?_)
  k_with "compareOp NotEq str str" => ((with_reducible show wpAny _ _ (compareOp CmpOp.NotEq (Value.str (S _) _) (Value.str (S _) _)) _ _ _); refine ne_S ?_)
  k_with "subscriptTail Name Slice str ref" => (k_here; (with_reducible rename Fr _ _ _ _ => F'); (with_reducible rename News _ _ _ _ => N'); k_dflt (refine drop_S (s := ⟨_, _, _, _, _⟩) F' N' (by tb_start) ?_); intro _ _ _ _ _; (try k_sweep))
  k_with "subscriptTail Name Slice str ref" => (k_here; (with_reducible rename Fr _ _ _ _ => F'); (with_reducible rename News _ _ _ _ => N'); k_dflt (refine take_S (s := ⟨_, _, _, _, _⟩) F' N' (by tb_start) ?_); intro _ _ _ _ _; (try k_sweep))
  k_with "subscriptTail Name Slice str ref" => (k_here; (with_reducible rename Fr _ _ _ _ => F'); (with_reducible rename News _ _ _ _ => N'); k_dflt (refine mid_S (s := ⟨_, _, _, _, _⟩) F' N' (by tb_start) ?_); intro _ _ _ _ _; (try k_sweep))
  k_with "subscriptTail Name Slice str ref" => (k_here; (with_reducible rename Fr _ _ _ _ => F'); (with_reducible rename News _ _ _ _ => N'); k_dflt (refine part_S (s := ⟨_, _, _, _, _⟩) F' N' (by tb_start) ?_); intro _ _ _ _ _; (try k_sweep))
  k_with "subscriptTail Name Slice str ref" => (k_here; (with_reducible rename Fr _ _ _ _ => F'); (with_reducible rename News _ _ _ _ => N'); k_dflt (refine init_S (s := ⟨_, _, _, _, _⟩) F' N' (by tb_start) ?_); intro _ _ _ _ _; (try k_sweep))
  k_with "subscriptTail Name UnaryOp str int" => (k_here; (with_reducible show wpAny _ _ (subscriptTail _ _ (Value.str (S _) _) (Value.int _ _)) _ _ _); k_dflt (first | (refine last_S (by first | assumption | (intro hz; simp only [hz, List.length_nil] at *; lia)) (by tb_start) ?_) | (refine item_S (by first | assumption | lia | k_extra "my item") (by tb_start) ?_)))
  k_with "subscriptTail Name Name str int" => (k_here; (with_reducible show wpAny _ _ (subscriptTail _ _ (Value.str (S _) _) (Value.int _ _)) _ _ _); first | (with_reducible refine item_S (by k_dflt (first | assumption | lia | k_extra "my item")) (by k_dflt tb_start) ?_) | k_dflt (refine item_Si (by lia) (by first | lia | k_extra "my item") (by tb_start) ?_))
  k_with "subscriptTail Name Constant str int" => (k_here; (with_reducible show wpAny _ _ (subscriptTail _ _ (Value.str (S _) _) (Value.int _ _)) _ _ _); first | (with_reducible refine item_S (by k_dflt (first | assumption | lia | k_extra "my item")) (by k_dflt tb_start) ?_) | k_dflt (refine item_Si (by lia) (by first | lia | k_extra "my item") (by tb_start) ?_))
  k_with "subscriptTail Name BinOp str int" => (k_here; (with_reducible show wpAny _ _ (subscriptTail _ _ (Value.str (S _) _) (Value.int _ _)) _ _ _); first | (with_reducible refine item_S (by k_dflt (first | assumption | lia | k_extra "my item")) (by k_dflt tb_start) ?_) | k_dflt (refine item_Si (by lia) (by first | lia | k_extra "my item") (by tb_start) ?_))
  k_with "subscriptTail Attribute Name str int" => (k_here; (with_reducible show wpAny _ _ (subscriptTail _ _ (Value.str (S _) _) (Value.int _ _)) _ _ _); first | (with_reducible refine item_S (by k_dflt (first | assumption | lia | k_extra "my item")) (by k_dflt tb_start) ?_) | k_dflt (refine item_Si (by lia) (by first | lia | k_extra "my item") (by tb_start) ?_))
  k_with "subscriptTail Attribute Constant str int" => (k_here; (with_reducible show wpAny _ _ (subscriptTail _ _ (Value.str (S _) _) (Value.int _ _)) _ _ _); first | (with_reducible refine item_S (by k_dflt (first | assumption | lia | k_extra "my item")) (by k_dflt tb_start) ?_) | k_dflt (refine item_Si (by lia) (by first | lia | k_extra "my item") (by tb_start) ?_))
  k_with "subscriptTail Attribute Attribute str int" => (k_here; (with_reducible show wpAny _ _ (subscriptTail _ _ (Value.str (S _) _) (Value.int _ _)) _ _ _); first | (with_reducible refine item_S (by k_dflt (first | assumption | lia | k_extra "my item")) (by k_dflt tb_start) ?_) | k_dflt (refine item_Si (by lia) (by first | lia | k_extra "my item") (by tb_start) ?_))
  k_with "truthy ref" => (k_here; k_dflt (refine' truthy_meth ?N ?q ?_; (case N => k_asm); (case q => k_mem); k_whole))
  k_with "exec For Name Name cons nil" => (k_here; (with_reducible rename Fr _ _ _ _ => lF'); k_dflt (refine' For_invVF lF' ?k1 ?k2 ?_; (case k1 => exact rfl); (case k2 => exact rfl); k_whole))
  k_with "exec For Name Subscript cons nil" => (k_here; (with_reducible rename Fr _ _ _ _ => lF'); k_dflt (refine' For_invVF lF' ?k1 ?k2 ?_; (case k1 => exact rfl); (case k2 => exact rfl); k_whole))
  k_with "all" => (refine List.forall_mem_append.mpr ⟨?a, ?b⟩; (case a => k_all); (case b => k_all))
  k_with "rel" => (simp only [List.size_toArray]; rw [PySem.sizeLine_eq]; lia)
  k_with "call builtin:list.append" => (k_here; (with_reducible show wpAny _ _ (call (Value.builtin _) [Value.ref _, _]) _ _ _); k_dflt (refine' append_K ?k1 ?k2 ?k3 ?_ ?z; (case k1 => k_asm); (case k2 => k_asm); (case k3 => k_upd); (case z => tb_rel); k_whole); intro h' F' N'; (try simp only [List.push_toArray] at N'); (try k_sweep))
  k_with "enter" => (refine' code_def ?k1 ?k2 ?k3 ?k4 ?k5 ?kA ?kF ?kK ?k6 ?k7 ?k8 ?k9 ?kB ?_ ?c2 ?c3 ?c4 ?c5; (case kA => exact rfl); (case kF => exact rfl); (case kK => assumption); (case k1 => k_asm); (case k2 => k_asm); (case k3 => k_asm); (case k4 => k_asm); (case k5 => k_asm); (case k6 => k_is); (case k7 => k_is); (case k8 => ktr_room); (case k9 => first | exact BindsTo.of_eq rfl | exact binds_K (by k_in) rfl (by k_is) rfl rfl rfl); (case c5 => decide); (case kB => exact locs rfl); (case c2 => exact rfl); (case c3 => exact rfl); (case c4 => exact rfl); k_whole; intro g' L' h' FG' F' N' B' X' T'; (try dsimp only); (try k_lift B'); (try k_fold))
  k_with "JoinP" => (dsimp only [JoinP])
  k_with "subscriptTail" => (k_here; (with_reducible show wpAny _ _ (subscriptTail _ _ (Value.str (S _) _) (Value.int _ _)) _ _ _); first | (with_reducible refine item_S (by k_dflt (first | assumption | lia | k_extra "my item")) (by k_dflt tb_start) ?_) | k_dflt (refine item_Si (by lia) (by first | lia | k_extra "my item") (by tb_start) ?_))
  k_with "compareOp Eq str str" => ((with_reducible show wpAny _ _ (compareOp CmpOp.Eq (Value.str (S _) _) (Value.str (Str.ofString _) _)) _ _ _); k_dflt (first | refine eq_lit [13] (by decide +kernel) ?_ | refine eq_lit [10] (by decide +kernel) ?_))
  k_with "compareOp NotEq str str" => ((with_reducible show wpAny _ _ (compareOp CmpOp.NotEq (Value.str (S _) _) (Value.str (Str.ofString _) _)) _ _ _); k_dflt (first | refine ne_lit [13] (by decide +kernel) ?_ | refine ne_lit [10] (by decide +kernel) ?_))
  k_with "inplaceOp Add str str" => ((with_reducible show wpAny _ _ (inplaceOp Operator.Add (Value.str (S _) _) (Value.str (Str.ofString _) _)) _ _ _); k_dflt (refine iadd_lit [10] (by decide +kernel) (by tb_start) ?_); intro _ _)
  k_with "room" => (k_dflt ((first | apply room4 | apply room3 | apply room2 | apply room1 | apply room0 | apply roomz); assumption; exact rfl))
  repeat' ((fail_if_success (with_reducible show wpAny _ _ (execs (Stmt.Assign [Expr.Name (Str.ofString "text") _] _ _ :: _) _) _ _ _)); first | (k_unfold; (try dsimp only)) | (k_end; wrow_close) | walk1 | (dsimp only; walk1) | (leave1; try dsimp only))
  · (rename Fr _ _ _ _ => F9)
    (rename News _ _ _ _ => N9)
    k_dflt (refine' head_spec (ns := ns) rfl ?hI1 _ _ rfl rfl _ _ _ _ _ _ _ _ _ _ _ _ _ _ ?B1 F9 ?X1 N9 ?T1 ?hd1 ?hu1 ?hE1 ?ret1)
    (case hI1 => rw [nums4_some (by assumption)]; assumption)
    (case B1 => k_asm)
    (case X1 => k_asm)
    (case T1 => k_asm)
    (case hd1 => ktr_room)
    (case hu1 => ktr_units)
    (case hE1 => passes_own)
    (case ret1 =>
      intro h2 tk2 m2 nw2 F2 N2
      (try k_fold)
      k_steps)
  · (rename Fr _ _ _ _ => F9)
    (rename News _ _ _ _ => N9)
    k_dflt (refine' head_spec (ns := ns) rfl ?hI2 _ _ rfl rfl _ _ _ _ _ _ _ _ _ _ _ _ _ _ ?B2 F9 ?X2 N9 ?T2 ?hd2 ?hu2 ?hE2 ?ret2)
    (case hI2 => rw [nums4_none (by assumption)]; exact .cons _ _ .nil)
    (case B2 => k_asm)
    (case X2 => k_asm)
    (case T2 => k_asm)
    (case hd2 => ktr_room)
    (case hu2 => ktr_units)
    (case hE2 => passes_own)
    (case ret2 =>
      intro h2 tk2 m2 nw2 F2 N2
      (try k_fold)
      k_steps)
end
end Mine
theorem PySem.Challenge.cw_te0074_04_holds : PySem.Challenge.rw_te0074_04.Holds :=
  Mine.walk
